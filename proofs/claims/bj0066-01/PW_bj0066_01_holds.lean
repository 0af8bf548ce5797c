import PyProof.Rows.All
import Wide.All
import OpenK.AllK
import Wide.FinOn
import PyProof.Rows.ListMul
import PyProof.EnumFor
import PyProof.EnumMake
import PyProof.Rows.RuleIs2
import PyProof.Rows.StrRules
import PyProof.Rows.SortShell
import PyProof.EqAt
import PyProof.Rows.RuleB_bool
import PyProof.FactsAll.list_2
import PyProof.Rows.SortWalk
import PyProof.Rows.RuleC_bool
import PyProof.CallStr
import PyProof.StrBlock
import Lean
import PySem.Challenge.RW_bj0066_01
set_option Elab.async false
set_option maxRecDepth 100000
set_option linter.unusedVariables false
set_option linter.unnecessarySimpa false
section
open PySem PySem.W PySem.Calls PyProof.Rows
namespace Dp
def clsBody (c : Str) : List Stmt := match (PySem.Challenge.pw_bj0066_01.main.body.filter fun st => match st with | .ClassDef n .. => n == c | _ => false) with
  | [.ClassDef _ _ _ b _ _ _ _ _ _ _] => b
  | _ => []
def defIn (l : List Stmt) (n : Str) : Stmt := match (l.filter fun st => match st with | .FunctionDef m .. => m == n | _ => false) with
  | [st] => st
  | _ => .Pass default
def dBody : Stmt → List Stmt | .FunctionDef _ _ b .. => b | _ => []
def dPar : Stmt → Arguments | .FunctionDef _ a .. => a | _ => default
def dScope : Stmt → Scope | .FunctionDef _ _ _ _ _ _ sc .. => sc | _ => default
def meth (n : Str) : Stmt := defIn (clsBody "SATSolver") n
def fdOf (st : Stmt) (name qual : Str) (dV pm : Value) (cd : Addr) : FuncData := fnOf name qual (dPar st) (dBody st) (dScope st) dV .none .none pm none (.ref cd) .none
structure Eff (own : Addr → Prop) (s s' : Shared) : Prop where
  keep : ∀ b o, ¬ own b → s.heap.get? b = some o → s'.heap.get? b = some o
  gens : s'.gens = s.gens
  os : s'.os = s.os
theorem Eff.refl {own : Addr → Prop} {s : Shared} : Eff own s s := ⟨fun _ _ _ e => e, rfl, rfl⟩
theorem Eff.trans {own own' : Addr → Prop} {s s' s'' : Shared} (x : Eff own s s') (y : Eff own' s' s'') (g : ∀ b, own' b → own b ∨ s.heap.get? b = none) : Eff own s s'' :=
  ⟨fun b o n e => y.keep b o (fun q => (g b q).elim n fun z => by rw [z] at e; cases e) (x.keep b o n e), y.gens.trans x.gens, y.os.trans x.os⟩
theorem Eff.same {own : Addr → Prop} {s s' s'' : Shared} (x : Eff own s s') (y : Eff own s' s'') : Eff own s s'' :=
  ⟨fun b o n e => y.keep b o n (x.keep b o n e), y.gens.trans x.gens, y.os.trans x.os⟩
theorem Eff.toks {own : Addr → Prop} {s : Shared} {h : Heap} {t : Nat} (k : ∀ b o, ¬ own b → s.heap.get? b = some o → h.get? b = some o) : Eff own s { s with heap := h, toks := t } := ⟨k, rfl, rfl⟩
def No : Addr → Prop := fun _ => False
theorem Eff.no {own : Addr → Prop} {s s' : Shared} (x : Eff No s s') : Eff own s s' := ⟨fun b o _ e => x.keep b o (fun q => q) e, x.gens, x.os⟩
theorem Eff.all {s s' : Shared} (x : Eff No s s') {b : Addr} {o : Obj} (e : s.heap.get? b = some o) : s'.heap.get? b = some o := x.keep b o (fun q => q) e
structure Bas (w : World) (K : Frag) (B : Heap) : Prop where
  K : K.In B
  top : ∃ p loose mg mb, TopRead p loose mg mb B
structure On (B h : Heap) : Prop where
  keep : ∀ b o, B.get? b = some o → h.get? b = some o
  size : B.objs.size ≤ h.objs.size
section
variable {prog : Program} {w : World} {K : Frag} {B : Heap} {A : Around} {E : Value → Shared → Prop} {s s' : Shared} {L : Addr} {m : Str → Option Value} {own : Addr → Prop}
theorem Bas.in {h : Heap} (G : Bas w K B) (o : On B h) : K.In h := G.K.keeps o.keep
theorem Bas.nolimit {h : Heap} (G : Bas w K B) (o : On B h) : h.NoLimit := by
  obtain ⟨_, _, _, _, T⟩ := G.top
  exact T.nolimit.keeps o.keep
theorem frOn {h : Heap} (F : Fr B L h m) : On B h := ⟨F.keep, Nat.le_of_lt (Nat.lt_of_le_of_lt F.above F.ns.lt)⟩
theorem Fr_eff (F : Fr B L s.heap m) (x : Eff own s s') (hL : ¬ own L) (hB : ∀ b o, B.get? b = some o → ¬ own b) : Fr B L s'.heap m :=
  ⟨F.ns.at' fun o e => x.keep L o hL e, fun b o e => x.keep b o (hB b o e) (F.keep b o e), F.above⟩
theorem Fr_no (F : Fr B L s.heap m) (x : Eff No s s') : Fr B L s'.heap m := Fr_eff F x (fun q => q) fun _ _ _ q => q
theorem Fr_live {h : Heap} (F : Fr B L h m) : ∃ o, h.get? L = some o := let ⟨o, _, _, e, _⟩ := F.ns; ⟨o, e⟩
theorem noexc {α : Type} {M : Model} {t : Sem α} {Q : α → Shared → Prop} (h : wpAny M A t Q (fun _ _ => False) s) : wpAny M A t Q E s :=
  wpAny_mono h (fun _ _ x => x) fun _ _ x => x.elim
theorem call_fn {f cd : Addr} {st : Stmt} {name qual : Str} {dV pm oc : Value} {od : Option Addr} {osl : Array (Option Value)} {args : Args} {binds : List (Str × Value)} {R : Result → Shared → Prop}
    (G : Bas w K B) (o : On B s.heap) (ho : K.lookup f = some ⟨oc, od, .func (fdOf st name qual dV pm cd), osl⟩) (hcd : codeIn K (.ref cd) qual = true) (hroom : A.depth < recursionLimit)
    (hbind : BindsTo s (fdOf st name qual dV pm cd) args binds) (hloc : ∀ x ∈ binds, (dScope st).names.lookup x.1 = some .local)
    (h : ∀ h₁ L, Fr B L h₁ (fun x => binds.reverse.lookup x) → s.heap.get? L = none → (∀ b o, s.heap.get? b = some o → h₁.get? b = some o) →
      wpAny (model prog w) (A.deeper (envOf qual (dScope st) L f (.ref cd))) (execs (dBody st) (envOf qual (dScope st) L f (.ref cd)))
        (fun f s' => R (.ok (.ret (match f with | .ret v => v | _ => .none))) s') (fun _ _ => False) { s with heap := h₁, toks := s.toks + binds.length })
    (hcell : ∀ x ∈ (dScope st).names, x.2 ≠ .cell := by decide) (hco : (dScope st).isCoroutine = false := by rfl) (hgen : (dScope st).isGenerator = false := by rfl) (hk : (dScope st).kind = .function := by rfl) :
    codeAny (model prog w) A (.call (.ref f) args) R s := by
  have hin := G.in o
  refine codeAny_call_def (fd := fdOf st name qual dV pm cd) (body := dBody st) (binds := binds) hroom (hin _ _ ho) rfl (G.nolimit o) (codeRec_of hin hcd) rfl hbind hcell hloc (fun h₁ hns hk₁ => ?_) hco hgen hk
  refine noexc (h h₁ _ ⟨hns, fun b o' e => hk₁ b o' (o.keep b o' e), o.size⟩ ?_ hk₁)
  cases q : s.heap.get? s.heap.objs.size with
  | none => rfl
  | some o' => exact absurd (Heap.lt_size q) (Nat.lt_irrefl _)
end
end Dp
end
section
open PySem PySem.W PySem.Calls PyProof.Rows
namespace Dp
structure FnAt (K : Frag) (st : Stmt) (name qual : Str) (f cd : Addr) (dV : Value) : Prop where
  at_ : ∃ pm, K.lookup f = some ⟨.type "function", none, .func (fdOf st name qual dV pm cd), #[]⟩
  code : codeIn K (.ref cd) qual = true
  fn : isFn K (.ref f) = true
  keep : keepIn K (.ref f) = true
structure MethAt (K : Frag) (n : Str) (f cd : Addr) : Prop where
  fn : FnAt K (meth n) n ("SATSolver." ++ n) f cd .none
  find : findIn K (.ref 207) n = some (some (.ref f))
def topDef (n : Str) : Stmt := defIn PySem.Challenge.pw_bj0066_01.main.body n
def sAttrs : List Str := ["INTERVAL", "_unit_prop_queue", "clauses", "heuristic", "is_unsatisfied", "learning", "levels", "lit_heap", "lit_scores", "num_decisions", "num_learned_clauses", "occurrence_count", "original_num_clauses", "sentinels", "symbols", "update_functions", "var_settings", "variable_set"]
def lAttrs : List Str := ["decision", "flipped", "var_settings", "varsettings"]
structure ClsAt (K : Frag) (C : Addr) (attrs : List Str) : Prop where
  plain : plainGet K C "" = true
  dict : hasDictIn K C = true
  makes : makesIn K C = true
  setter : findIn K (.ref C) "__setattr__" = some (some (.builtin "object.__setattr__"))
  over : plainOver K C = true
  attr : ∀ x ∈ attrs, findIn K (.ref C) x = some none
  taker : ∀ x ∈ attrs, takerIn K C x = some none
structure KF (K : Frag) : Prop where
  S : ClsAt K 207 sAttrs
  Lv : ClsAt K 229 lAttrs
  initS : findIn K (.ref 207) "__init__" = some (some (.ref 78))
  initL : findIn K (.ref 229) "__init__" = some (some (.ref 226))
  curP : findIn K (.ref 207) "_current_level" = some (some (.ref 101))
  curG : specialIn K (.ref 101) "__get__" = some (some (.builtin "property.__get__"))
  curT : takesIn K (.ref 101) = some true
  curR : ∃ rest, recIn K 101 "property" = some (.ref 100 :: rest)
  cur : FnAt K (meth "_current_level") "_current_level" "SATSolver._current_level" 100 99 .none
  fSI : FnAt K (meth "__init__") "__init__" "SATSolver.__init__" 78 77 (.ref 71)
  fLI : FnAt K (defIn (clsBody "Level") "__init__") "__init__" "Level.__init__" 226 225 (.ref 219)
  fIV : MethAt K "_initialize_variables" 83 82
  fIC : MethAt K "_initialize_clauses" 88 87
  fFM : MethAt K "_find_model" 93 92
  fCS : MethAt K "_clause_sat" 108 107
  fIS : MethAt K "_is_sentinel" 115 114
  fAL : MethAt K "_assign_literal" 122 121
  fUn : MethAt K "_undo" 129 128
  fSi : MethAt K "_simplify" 136 135
  fUP : MethAt K "_unit_prop" 143 142
  fPL : MethAt K "_pure_literal" 150 149
  fVI : MethAt K "_vsids_init" 157 156
  fVC : MethAt K "_vsids_calculate" 164 163
  fVA : MethAt K "_vsids_lit_assigned" 171 170
  fVU : MethAt K "_vsids_lit_unset" 178 177
  fVCA : MethAt K "_vsids_clause_added" 185 184
  fSA : MethAt K "_simple_add_learned_clause" 192 191
  fSC : MethAt K "_simple_compute_conflict" 197 196
  keepS : keepIn K (.ref 207) = true
  keepL : keepIn K (.ref 229) = true
  gSAT : nsIn K mainGlobals "SATSolver" = some (some (.ref 207))
  gLev : nsIn K mainGlobals "Level" = some (some (.ref 229))
  gPush : nsIn K mainGlobals "heappush" = some (some (.builtin "_heapq.heappush"))
  gPop : nsIn K mainGlobals "heappop" = some (some (.builtin "_heapq.heappop"))
  dLI : K.lookup 219 = some { cls := .type "tuple", dict := none, data := .seq #[.bool false] 0, slots := #[] }
  dSI : ∃ t1 t2 t3, K.lookup 71 = some { cls := .type "tuple", dict := none, data := .seq #[.none, .str "vsids" t1, .str "none" t2, .int 500 t3] 0, slots := #[] }
  fLA : FnAt K (topDef "_law_at") "_law_at" "_law_at" 240 239 .none
  fLC : FnAt K (topDef "_law_clauses") "_law_clauses" "_law_clauses" 247 246 .none
  fLR : FnAt K (topDef "_law_rows") "_law_rows" "_law_rows" 252 251 .none
  fLH : FnAt K (topDef "_law_holds") "_law_holds" "_law_holds" 257 256 .none
  gLA : nsIn K mainGlobals "_law_at" = some (some (.ref 240))
  gLC : nsIn K mainGlobals "_law_clauses" = some (some (.ref 247))
  gLR : nsIn K mainGlobals "_law_rows" = some (some (.ref 252))
  gLH : nsIn K mainGlobals "_law_holds" = some (some (.ref 257))
  gNone : ∀ x ∈ (["len", "abs", "range", "list", "set", "sorted", "str", "enumerate"] : List Str), nsIn K mainGlobals x = some none
end Dp
end
section
open PySem PySem.W PySem.Calls PyProof.Rows
namespace Dp
inductive Role
  | slf | dct | vset | que | sdct | odct | vars | cls | hp | sdic | lvs
  | sent (l : Int) | lset (i : Nat)
def rolEq : Role → Role → Bool
  | .slf, .slf => true
  | .dct, .dct => true
  | .vset, .vset => true
  | .que, .que => true
  | .sdct, .sdct => true
  | .odct, .odct => true
  | .vars, .vars => true
  | .cls, .cls => true
  | .hp, .hp => true
  | .sdic, .sdic => true
  | .lvs, .lvs => true
  | .sent a, .sent b => decide (a = b)
  | .lset a, .lset b => decide (a = b)
  | _, _ => false
theorem rolEq_iff {r q : Role} : rolEq r q = true ↔ r = q := by cases r <;> cases q <;> simp [rolEq]
structure LV where
  dec : Int
  flip : Bool
  lits : List Int
  ob : Addr
  dc : Addr
structure SV where
  n : Nat
  vs : List Int
  unsat : Bool
  que : List Int
  sent : Int → List Int
  vars : List Bool
  cls : List (List Int)
  hp : List Int
  lvs : List LV
  learn : Bool
  syms : Addr
  sk : List Int
  ph : Nat
def IsLit (n : Nat) (l : Int) : Prop := l ≠ 0 ∧ l.natAbs ≤ n
def litsOf : Nat → List Int
  | 0 => []
  | n + 1 => litsOf n ++ [((n : Int) + 1), -((n : Int) + 1)]
theorem mem_litsOf {n : Nat} {l : Int} : l ∈ litsOf n ↔ IsLit n l := by
  induction n with
  | zero => simp [litsOf, IsLit]
  | succ n ih =>
    simp only [litsOf, List.mem_append, ih, List.mem_cons, List.not_mem_nil, or_false, IsLit]
    omega
def SV.live (S : SV) : Role → Prop
  | .sent l => 1 ≤ S.ph ∧ IsLit S.n l
  | .lset i => 8 ≤ S.ph ∧ i < S.lvs.length
  | .sdct => 1 ≤ S.ph
  | .odct => 2 ≤ S.ph
  | .vars => 3 ≤ S.ph
  | .cls => 4 ≤ S.ph
  | .hp => 5 ≤ S.ph
  | .sdic => 6 ≤ S.ph
  | .lvs => 8 ≤ S.ph
  | _ => True
abbrev listO (xs : Array Value) (k : Nat) : Obj := { cls := .type "list", dict := none, data := .seq xs k, slots := #[] }
abbrev tupO (xs : Array Value) : Obj := { cls := .type "tuple", dict := none, data := .seq xs 0, slots := #[] }
inductive F2 {α β : Type} (R : α → β → Prop) : List α → List β → Prop
  | nil : F2 R [] []
  | cons {a b l m} : R a b → F2 R l m → F2 R (a :: l) (b :: m)
theorem F2.imp {α β : Type} {R R' : α → β → Prop} (k : ∀ a b, R a b → R' a b) {l : List α} {m : List β} (x : F2 R l m) : F2 R' l m := by
  induction x with
  | nil => exact .nil
  | cons a _ ih => exact .cons (k _ _ a) ih
theorem F2.length {α β : Type} {R : α → β → Prop} {l : List α} {m : List β} (x : F2 R l m) : l.length = m.length := by
  induction x with
  | nil => rfl
  | cons _ _ ih => simp [ih]
theorem F2.get {α β : Type} {R : α → β → Prop} {l : List α} {m : List β} (x : F2 R l m) {i : Nat} {b : β} (e : m[i]? = some b) : ∃ a, l[i]? = some a ∧ R a b := by
  induction x generalizing i with
  | nil => simp at e
  | cons r _ ih =>
    cases i with
    | zero => simp at e; subst e; exact ⟨_, rfl, r⟩
    | succ i => simp at e; simpa using ih e
theorem F2.get' {α β : Type} {R : α → β → Prop} {l : List α} {m : List β} (x : F2 R l m) {i : Nat} {a : α} (e : l[i]? = some a) : ∃ b, m[i]? = some b ∧ R a b := by
  induction x generalizing i with
  | nil => simp at e
  | cons r _ ih =>
    cases i with
    | zero => simp at e; subst e; exact ⟨_, rfl, r⟩
    | succ i => simp at e; simpa using ih e
theorem F2.append {α β : Type} {R : α → β → Prop} {l l' : List α} {m m' : List β} (x : F2 R l m) (y : F2 R l' m') : F2 R (l ++ l') (m ++ m') := by
  induction x with
  | nil => exact y
  | cons r _ ih => exact .cons r ih
def IntList (o : Obj) (ns : List Int) : Prop := ∃ vs k, o = listO vs.toArray k ∧ IntsAre vs ns
def Ent (e : Int × Value) : Prop := ∃ n tk, e = (hashInt n, Value.int n tk)
def dec (e : Int × Value) : Int := match e.2 with | .int n _ => n | _ => 0
def Up (l : List Nat) : Prop := l.Pairwise (· < ·)
structure Good (w : World) (t : SetTable) (n : Nat) : Prop where
  fits : t.fits n = true
  up : Up t.place.toList
  led : t.led = !(w.params.followText "set-order")
def IntSet (w : World) (o : Obj) (ns : List Int) : Prop := ∃ es ep t, o = { cls := .type "set", dict := none, data := .set es ep t, slots := #[] } ∧ (∀ e ∈ es.toList, Ent e) ∧ (es.toList.map dec).Perm ns ∧ ns.Nodup ∧ Good w t es.size
def KMap (prog : Program) (w : World) (o : Obj) (ks : List Int) (V : Int → Value → Prop) : Prop := ∃ kvs : List (Int × Value), (∀ (h : Heap) a, h.get? a = some o → h.DictOf (intKind prog w) a kvs) ∧ kvs.map (·.1) = ks ∧ ∀ kv ∈ kvs, V kv.1 kv.2
def IsIntV (v : Value) : Prop := ∃ i t, v = .int i t
def Dic (es : List DictEntry) (f : Str → Option Value) : Prop := ∀ x, getL x es = some (f x)
def Fz (D own : Addr → Prop) (h : Heap) (a : Addr) (o : Obj) : Prop := D a ∧ ¬ own a ∧ h.get? a = some o
structure Att (adr : Role → Addr) (S : SV) (f : Str → Option Value) : Prop where
  vset : f "var_settings" = some (.ref (adr .vset))
  unsat : f "is_unsatisfied" = some (.bool S.unsat)
  que : f "_unit_prop_queue" = some (.ref (adr .que))
  syms : f "symbols" = some (.ref S.syms)
  sdct : 1 ≤ S.ph → f "sentinels" = some (.ref (adr .sdct))
  odct : 2 ≤ S.ph → f "occurrence_count" = some (.ref (adr .odct))
  vars : 3 ≤ S.ph → f "variable_set" = some (.ref (adr .vars))
  cls : 4 ≤ S.ph → f "clauses" = some (.ref (adr .cls))
  hp : 5 ≤ S.ph → f "lit_heap" = some (.ref (adr .hp))
  sdic : 6 ≤ S.ph → f "lit_scores" = some (.ref (adr .sdic))
  learn : 7 ≤ S.ph → f "learning" = some (.bool S.learn)
  lvs : 8 ≤ S.ph → f "levels" = some (.ref (adr .lvs))
  n1 : 9 ≤ S.ph → ∃ i t, f "num_decisions" = some (.int i t)
  n2 : 10 ≤ S.ph → ∃ i t, f "num_learned_clauses" = some (.int i t)
  rest : ∀ x, x ∉ sAttrs → f x = none
section
variable (prog : Program) (w : World)
def RoleOk (D own : Addr → Prop) (adr : Role → Addr) (h : Heap) (S : SV) : Role → Obj → Prop
  | .slf => fun o => o = instObj 207 (adr .dct)
  | .dct => fun o => ∃ es k f, o = dictOf es k ∧ es.length ≤ 20 + S.ph ∧ Dic es f ∧ Att adr S f
  | .vset => fun o => IntSet w o S.vs
  | .que => fun o => IntList o S.que
  | .sdct => fun o => KMap prog w o (litsOf S.n) fun l v => v = .ref (adr (.sent l))
  | .odct => fun o => KMap prog w o (litsOf S.n) fun _ => IsIntV
  | .vars => fun o => ∃ k, o = listO (S.vars.map Value.bool).toArray k
  | .cls => fun o => ∃ as k, o = listO (as.map Value.ref).toArray k ∧ F2 (fun a c => ∃ oc, Fz D own h a oc ∧ IntList oc c) as S.cls
  | .hp => fun o => ∃ as k, o = listO (as.map Value.ref).toArray k ∧ F2 (fun a l => ∃ i t t', Fz D own h a (tupO #[.int i t, .int l t'])) as S.hp
  | .sdic => fun o => KMap prog w o S.sk fun _ => IsIntV
  | .lvs => fun o => ∃ k, o = listO (S.lvs.map fun lv => Value.ref lv.ob).toArray k ∧ ∀ (i : Nat) lv, S.lvs[i]? = some lv → Fz D own h lv.ob (instObj 229 lv.dc) ∧
      ∃ es k f t, Fz D own h lv.dc (dictOf es k) ∧ Dic es f ∧ f "decision" = some (.int lv.dec t) ∧ f "flipped" = some (.bool lv.flip) ∧ f "var_settings" = some (.ref (adr (.lset i)))
  | .sent l => fun o => IntSet w o (S.sent l)
  | .lset i => fun o => ∀ lv, S.lvs[i]? = some lv → IntSet w o lv.lits
def ownOf (adr : Role → Addr) (S : SV) (a : Addr) : Prop := ∃ r, S.live r ∧ adr r = a
structure Rep (B : Heap) (D : Addr → Prop) (adr : Role → Addr) (S : SV) (h : Heap) : Prop where
  ok : ∀ r, S.live r → ∃ o, h.get? (adr r) = some o ∧ RoleOk prog w D (ownOf adr S) adr h S r o
  inj : ∀ r r', S.live r → S.live r' → adr r = adr r' → r = r'
  sub : ∀ r, S.live r → D (adr r)
  off : ∀ b, D b → B.get? b = none
  alive : ∀ b, D b → ∃ o, h.get? b = some o
  syms : ∃ o, B.get? S.syms = some o
end
variable {prog : Program} {w : World} {B : Heap} {adr : Role → Addr} {S S' : SV} {h h' : Heap} {own own' D D' : Addr → Prop}
theorem RoleOk.fz (k : ∀ a o, Fz D own h a o → Fz D' own' h' a o) : ∀ {r : Role} {o : Obj}, RoleOk prog w D own adr h S r o → RoleOk prog w D' own' adr h' S r o
  | .slf, _, x => x
  | .dct, _, x => x
  | .vset, _, x => x
  | .que, _, x => x
  | .sdct, _, x => x
  | .odct, _, x => x
  | .vars, _, x => x
  | .cls, _, ⟨as, n, e, f⟩ => ⟨as, n, e, f.imp fun _ _ ⟨oc, a, b⟩ => ⟨oc, k _ _ a, b⟩⟩
  | .hp, _, ⟨as, n, e, f⟩ => ⟨as, n, e, f.imp fun _ _ ⟨i, t, t', a⟩ => ⟨i, t, t', k _ _ a⟩⟩
  | .sdic, _, x => x
  | .lvs, _, ⟨n, e, f⟩ => ⟨n, e, fun i lv q => let ⟨a, es, m, g, t, b, r⟩ := f i lv q; ⟨k _ _ a, es, m, g, t, k _ _ b, r⟩⟩
  | .sent _, _, x => x
  | .lset _, _, x => x
theorem ownOf_eq (hl : ∀ r, S'.live r ↔ S.live r) : ownOf adr S' = ownOf adr S := by
  funext a; exact propext ⟨fun ⟨q, a, b⟩ => ⟨q, (hl q).mp a, b⟩, fun ⟨q, a, b⟩ => ⟨q, (hl q).mpr a, b⟩⟩
theorem Rep.upd {r : Role} {o' : Obj} (R : Rep prog w B D adr S h) (hr : S.live r) (sb : Heap.SameBut (adr r) h h') (ho : h'.get? (adr r) = some o')
    (hl : ∀ r, S'.live r ↔ S.live r) (hy : S'.syms = S.syms) (hok : RoleOk prog w D (ownOf adr S) adr h' S' r o') (hs : ∀ r' o, r' ≠ r → RoleOk prog w D (ownOf adr S) adr h' S r' o → RoleOk prog w D (ownOf adr S) adr h' S' r' o) : Rep prog w B D adr S' h' := by
  have ho' := ownOf_eq (adr := adr) hl
  refine ⟨fun q hq => ?_, fun q q' a b e => R.inj q q' ((hl q).mp a) ((hl q').mp b) e, fun q hq => R.sub q ((hl q).mp hq), R.off, fun b hb => ?_, by rw [hy]; exact R.syms⟩
  · rw [ho']
    by_cases e : q = r
    · subst e; exact ⟨o', ho, hok⟩
    · obtain ⟨o, a, b⟩ := R.ok q ((hl q).mp hq)
      have hne : adr q ≠ adr r := fun z => e (R.inj q r ((hl q).mp hq) hr z)
      refine ⟨o, (sb.2 _ hne).trans a, hs q o e (b.fz fun c oc z => ⟨z.1, z.2.1, (sb.2 c fun y => z.2.1 (by subst y; exact ⟨r, hr, rfl⟩)).trans z.2.2⟩)⟩
  · by_cases e : b = adr r
    · subst e; exact ⟨o', ho⟩
    · obtain ⟨o, q⟩ := R.alive b hb; exact ⟨o, (sb.2 b e).trans q⟩
theorem Rep.keepD (R : Rep prog w B D adr S h) (k : ∀ b o, D b → h.get? b = some o → h'.get? b = some o) : Rep prog w B D adr S h' :=
  ⟨fun r hr => let ⟨o, a, b⟩ := R.ok r hr; ⟨o, k _ _ (R.sub r hr) a, b.fz fun c oc z => ⟨z.1, z.2.1, k _ _ z.1 z.2.2⟩⟩, R.inj, R.sub, R.off, fun b hb => let ⟨o, e⟩ := R.alive b hb; ⟨o, k _ _ hb e⟩, R.syms⟩
theorem Rep.keep (R : Rep prog w B D adr S h) (k : ∀ b o, h.get? b = some o → h'.get? b = some o) : Rep prog w B D adr S h' := R.keepD fun b o _ e => k b o e
theorem Rep.dom (R : Rep prog w B D adr S h) {b : Addr} (hb : ownOf adr S b) : D b := by obtain ⟨r, hr, rfl⟩ := hb; exact R.sub r hr
theorem Rep.new (R : Rep prog w B D adr S h) {b : Addr} (e : h.get? b = none) : ¬ D b := fun hb => by obtain ⟨o, q⟩ := R.alive b hb; rw [e] at q; cases q
end Dp
end
section
open PySem PySem.W PySem.Calls PyProof.Rows
namespace Dp
section
variable {prog : Program} {w : World} {K : Frag} {B : Heap} {A : Around} {E : Value → Shared → Prop} {s s' : Shared} {L a : Addr} {m : Str → Option Value} {adr : Role → Addr} {D : Addr → Prop} {S : SV} {cn : Str} {cs : Scope} {cd : Value} {h h' : Heap}
def HasAttr (h : Heap) (x C : Addr) (name : Str) (v : Value) : Prop := ∃ dx es k, InstAt h x (instObj C dx) C (some (dictOf es k)) ∧ getL name es = some (some v)
def HasNot (h : Heap) (x C : Addr) (name : Str) : Prop := ∃ dx es k, InstAt h x (instObj C dx) C (some (dictOf es k)) ∧ getL name es = some none
theorem getAttr_has {at_ : List Str} {x C : Addr} {name : Str} {v : Value} {expr : Bool} {Q : Value → Shared → Prop} (G : Bas w K B) (F : Fr B L s.heap m) (c : ClsAt K C at_) (H : HasAttr s.heap x C name v) (hn : name ∈ at_) (hv : handedIn v = true)
    (hq : Q v { s with toks := s.toks + 1 }) : wpAny (model prog w) A (getAttr (.ref x) name expr) Q E s := by
  obtain ⟨dx, es, k, I, hl⟩ := H
  exact get_own F G.K I (by have := c.plain; exact this) c.dict (c.attr name hn) rfl hl hv hq
theorem attr_name {at_ : List Str} {x C : Addr} {name n : Str} {v : Value} {p pos : Pos} {Q : Value → Shared → Prop} (G : Bas w K B) (F : Fr B L s.heap m) (c : ClsAt K C at_) (hx : m n = some (.ref x)) (H : HasAttr s.heap x C name v) (hn : name ∈ at_) (hv : handedIn v = true)
    (hq : Q v { s with toks := s.toks + 1 }) (hk : cs.kind = .function := by rfl) (hl : (envOf cn cs L a cd).kindOf n = some .local := by rfl) (hd : (n == ("__debug__" : Str)) = false := by decide)
    (he : eval (.Attribute (.Name n p) name pos) (envOf cn cs L a cd) = (do
      let o ← eval (.Name n p) (envOf cn cs L a cd)
      standAt pos.atName
      let r ← holding [o] (getAttr o name true)
      letTemporaryGo (.Name n p) o r
      pure r) := by with_unfolding_all rfl) :
    wpAny (model prog w) A (eval (.Attribute (.Name n p) name pos) (envOf cn cs L a cd)) Q E s :=
  Attribute_any_ (ld F hx (getAttr_has G F c H hn hv hq) hk hl hd) he
end
section
variable {prog : Program} {w : World} {K : Frag} {B : Heap} {A : Around} {E : Value → Shared → Prop} {s s' : Shared} {L a : Addr} {m : Str → Option Value} {adr : Role → Addr} {D : Addr → Prop} {S : SV} {cn : Str} {cs : Scope} {cd : Value} {h h' : Heap}
theorem Rep.has (R : Rep prog w B D adr S h) : ∃ es k f, InstAt h (adr .slf) (instObj 207 (adr .dct)) 207 (some (dictOf es k)) ∧ h.get? (adr .dct) = some (dictOf es k) ∧ es.length ≤ 20 + S.ph ∧ Dic es f ∧ Att adr S f := by
  obtain ⟨o, h1, rfl⟩ := R.ok .slf trivial
  obtain ⟨o', h2, es, k, f, rfl, r⟩ := R.ok .dct trivial
  exact ⟨es, k, f, ⟨h1, rfl, rfl, h2⟩, h2, r⟩
theorem Rep.h_vset (R : Rep prog w B D adr S h) : HasAttr h (adr .slf) 207 "var_settings" (.ref (adr .vset)) := by obtain ⟨es, k, f, I, _, _, D, a⟩ := R.has; exact ⟨_, es, k, I, by rw [D]; exact congrArg some a.vset⟩
theorem Rep.h_unsat (R : Rep prog w B D adr S h) : HasAttr h (adr .slf) 207 "is_unsatisfied" (.bool S.unsat) := by obtain ⟨es, k, f, I, _, _, D, a⟩ := R.has; exact ⟨_, es, k, I, by rw [D]; exact congrArg some a.unsat⟩
theorem Rep.h_que (R : Rep prog w B D adr S h) : HasAttr h (adr .slf) 207 "_unit_prop_queue" (.ref (adr .que)) := by obtain ⟨es, k, f, I, _, _, D, a⟩ := R.has; exact ⟨_, es, k, I, by rw [D]; exact congrArg some a.que⟩
theorem Rep.h_syms (R : Rep prog w B D adr S h) : HasAttr h (adr .slf) 207 "symbols" (.ref S.syms) := by obtain ⟨es, k, f, I, _, _, D, a⟩ := R.has; exact ⟨_, es, k, I, by rw [D]; exact congrArg some a.syms⟩
theorem Rep.h_sdct (R : Rep prog w B D adr S h) (hph : 1 ≤ S.ph) : HasAttr h (adr .slf) 207 "sentinels" (.ref (adr .sdct)) := by obtain ⟨es, k, f, I, _, _, D, a⟩ := R.has; exact ⟨_, es, k, I, by rw [D]; exact congrArg some (a.sdct hph)⟩
theorem Rep.h_odct (R : Rep prog w B D adr S h) (hph : 2 ≤ S.ph) : HasAttr h (adr .slf) 207 "occurrence_count" (.ref (adr .odct)) := by obtain ⟨es, k, f, I, _, _, D, a⟩ := R.has; exact ⟨_, es, k, I, by rw [D]; exact congrArg some (a.odct hph)⟩
theorem Rep.h_vars (R : Rep prog w B D adr S h) (hph : 3 ≤ S.ph) : HasAttr h (adr .slf) 207 "variable_set" (.ref (adr .vars)) := by obtain ⟨es, k, f, I, _, _, D, a⟩ := R.has; exact ⟨_, es, k, I, by rw [D]; exact congrArg some (a.vars hph)⟩
theorem Rep.h_cls (R : Rep prog w B D adr S h) (hph : 4 ≤ S.ph) : HasAttr h (adr .slf) 207 "clauses" (.ref (adr .cls)) := by obtain ⟨es, k, f, I, _, _, D, a⟩ := R.has; exact ⟨_, es, k, I, by rw [D]; exact congrArg some (a.cls hph)⟩
theorem Rep.h_hp (R : Rep prog w B D adr S h) (hph : 5 ≤ S.ph) : HasAttr h (adr .slf) 207 "lit_heap" (.ref (adr .hp)) := by obtain ⟨es, k, f, I, _, _, D, a⟩ := R.has; exact ⟨_, es, k, I, by rw [D]; exact congrArg some (a.hp hph)⟩
theorem Rep.h_sdic (R : Rep prog w B D adr S h) (hph : 6 ≤ S.ph) : HasAttr h (adr .slf) 207 "lit_scores" (.ref (adr .sdic)) := by obtain ⟨es, k, f, I, _, _, D, a⟩ := R.has; exact ⟨_, es, k, I, by rw [D]; exact congrArg some (a.sdic hph)⟩
theorem Rep.h_learn (R : Rep prog w B D adr S h) (hph : 7 ≤ S.ph) : HasAttr h (adr .slf) 207 "learning" (.bool S.learn) := by obtain ⟨es, k, f, I, _, _, D, a⟩ := R.has; exact ⟨_, es, k, I, by rw [D]; exact congrArg some (a.learn hph)⟩
theorem Rep.h_lvs (R : Rep prog w B D adr S h) (hph : 8 ≤ S.ph) : HasAttr h (adr .slf) 207 "levels" (.ref (adr .lvs)) := by obtain ⟨es, k, f, I, _, _, D, a⟩ := R.has; exact ⟨_, es, k, I, by rw [D]; exact congrArg some (a.lvs hph)⟩
theorem Rep.h_n1 (R : Rep prog w B D adr S h) (hph : 9 ≤ S.ph) : ∃ i t, HasAttr h (adr .slf) 207 "num_decisions" (.int i t) := by obtain ⟨es, k, f, I, _, _, D, a⟩ := R.has; obtain ⟨i, t, e⟩ := a.n1 hph; exact ⟨i, t, _, es, k, I, by rw [D]; exact congrArg some e⟩
theorem Rep.h_n2 (R : Rep prog w B D adr S h) (hph : 10 ≤ S.ph) : ∃ i t, HasAttr h (adr .slf) 207 "num_learned_clauses" (.int i t) := by obtain ⟨es, k, f, I, _, _, D, a⟩ := R.has; obtain ⟨i, t, e⟩ := a.n2 hph; exact ⟨i, t, _, es, k, I, by rw [D]; exact congrArg some e⟩
theorem Rep.h_not (R : Rep prog w B D adr S h) {x : Str} (hx : x ∉ sAttrs) : HasNot h (adr .slf) 207 x := by obtain ⟨es, k, f, I, _, _, D, a⟩ := R.has; exact ⟨_, es, k, I, by rw [D]; exact congrArg some (a.rest x hx)⟩
theorem Rep.o_vset (R : Rep prog w B D adr S h)  : ∃ o, h.get? (adr .vset) = some o ∧ (IntSet w o S.vs) := by obtain ⟨o, h1, h2⟩ := R.ok .vset trivial; exact ⟨o, h1, h2⟩
theorem Rep.o_que (R : Rep prog w B D adr S h)  : ∃ o, h.get? (adr .que) = some o ∧ (IntList o S.que) := by obtain ⟨o, h1, h2⟩ := R.ok .que trivial; exact ⟨o, h1, h2⟩
theorem Rep.o_sdct (R : Rep prog w B D adr S h) (hph : 1 ≤ S.ph) : ∃ o, h.get? (adr .sdct) = some o ∧ (KMap prog w o (litsOf S.n) fun l v => v = .ref (adr (.sent l))) := by obtain ⟨o, h1, h2⟩ := R.ok .sdct hph; exact ⟨o, h1, h2⟩
theorem Rep.o_odct (R : Rep prog w B D adr S h) (hph : 2 ≤ S.ph) : ∃ o, h.get? (adr .odct) = some o ∧ (KMap prog w o (litsOf S.n) fun _ => IsIntV) := by obtain ⟨o, h1, h2⟩ := R.ok .odct hph; exact ⟨o, h1, h2⟩
theorem Rep.o_vars (R : Rep prog w B D adr S h) (hph : 3 ≤ S.ph) : ∃ o, h.get? (adr .vars) = some o ∧ (∃ k, o = listO (S.vars.map Value.bool).toArray k) := by obtain ⟨o, h1, h2⟩ := R.ok .vars hph; exact ⟨o, h1, h2⟩
theorem Rep.o_hp (R : Rep prog w B D adr S h) (hph : 5 ≤ S.ph) : ∃ o, h.get? (adr .hp) = some o ∧ (∃ as k, o = listO (as.map Value.ref).toArray k ∧ F2 (fun a l => ∃ i t t', Fz D (ownOf adr S) h a (tupO #[.int i t, .int l t'])) as S.hp) := by obtain ⟨o, h1, h2⟩ := R.ok .hp hph; exact ⟨o, h1, h2⟩
theorem Rep.o_sdic (R : Rep prog w B D adr S h) (hph : 6 ≤ S.ph) : ∃ o, h.get? (adr .sdic) = some o ∧ (KMap prog w o S.sk fun _ => IsIntV) := by obtain ⟨o, h1, h2⟩ := R.ok .sdic hph; exact ⟨o, h1, h2⟩
theorem Rep.o_lvs (R : Rep prog w B D adr S h) (hph : 8 ≤ S.ph) : ∃ o, h.get? (adr .lvs) = some o ∧ (∃ k, o = listO (S.lvs.map fun lv => Value.ref lv.ob).toArray k ∧ ∀ (i : Nat) lv, S.lvs[i]? = some lv → Fz D (ownOf adr S) h lv.ob (instObj 229 lv.dc) ∧
      ∃ es k f t, Fz D (ownOf adr S) h lv.dc (dictOf es k) ∧ Dic es f ∧ f "decision" = some (.int lv.dec t) ∧ f "flipped" = some (.bool lv.flip) ∧ f "var_settings" = some (.ref (adr (.lset i)))) := by obtain ⟨o, h1, h2⟩ := R.ok .lvs hph; exact ⟨o, h1, h2⟩
theorem Rep.o_sent (R : Rep prog w B D adr S h) (hph : 1 ≤ S.ph) {l : Int} (hl : IsLit S.n l) : ∃ o, h.get? (adr (.sent l)) = some o ∧ (IntSet w o (S.sent l)) := by obtain ⟨o, h1, h2⟩ := R.ok (.sent l) ⟨hph, hl⟩; exact ⟨o, h1, h2⟩
theorem Rep.o_lset (R : Rep prog w B D adr S h) (hph : 8 ≤ S.ph) {i : Nat} {lv : LV} (hi : S.lvs[i]? = some lv) : ∃ o, h.get? (adr (.lset i)) = some o ∧ (IntSet w o lv.lits) := by obtain ⟨o, h1, h2⟩ := R.ok (.lset i) ⟨hph, by rcases Nat.lt_or_ge i S.lvs.length with q | q; exact q; rw [List.getElem?_eq_none q] at hi; cases hi⟩; exact ⟨o, h1, h2 lv hi⟩
theorem self_call0 {n name : Str} {f cdA : Addr} {p apos pos : Pos}  {Q : Value → Shared → Prop} (G : Bas w K B) (F : Fr B L s.heap m) (c : ClsAt K 207 sAttrs) (M : MethAt K name f cdA) (R : Rep prog w B D adr S s.heap)
    (hx : m n = some (.ref (adr .slf))) (hnot : name ∉ sAttrs)
    (hq : codeAny (model prog w) A (.call (.ref f) ⟨.ref (adr .slf) :: [], []⟩)
      (fun r s' => match r with | .ok (.ret v) => Q v s' | .ok _ => False | .error e => E e s') s)
    (hk : cs.kind = .function := by rfl) (hl : (envOf cn cs L a cd).kindOf n = some .local := by rfl) (hd : (n == ("__debug__" : Str)) = false := by decide)
    {pl : Sem Bool} (hm : eval (.Call (.Attribute (.Name n p) name apos) ([]) [] pos) (envOf cn cs L a cd) = (do
      let ov ← eval (.Name n p) (envOf cn cs L a cd)
      standAt apos.atName
      let (f, first) ← holding [ov] (getMethod ov name pl)
      callWith pos f first (backTo pos (starEach ([]) (envOf cn cs L a cd))) []) := by rfl) :
    wpAny (model prog w) A (eval (.Call (.Attribute (.Name n p) name apos) ([]) [] pos) (envOf cn cs L a cd)) Q E s := by
  obtain ⟨dx, es, k, I, hg⟩ := R.h_not hnot
  refine MethodCall_ (ld F hx ?_ hk hl hd) hm
  refine method_inst F G.K I (by have := c.plain; exact this) M.find M.fn.fn hg ?_
  refine callWith_of (P := K.In) rfl (keeps_K M.fn.keep) (PyProof.Rows.evalArgs_none ⟨G.in (frOn F), wpAny_call ?_⟩)
  exact hq
theorem self_call {n name : Str} {f cdA : Addr} {p apos pos : Pos} {e : PySem.Expr} {rest : List PySem.Expr} {Q : Value → Shared → Prop} (G : Bas w K B) (F : Fr B L s.heap m) (c : ClsAt K 207 sAttrs) (M : MethAt K name f cdA) (R : Rep prog w B D adr S s.heap)
    (hx : m n = some (.ref (adr .slf))) (hnot : name ∉ sAttrs)
    (hq : wpAny (model prog w) A (spliced (backTo pos (starEach (e :: rest) (envOf cn cs L a cd)))) (fun vs s₁ => On B s₁.heap ∧ codeAny (model prog w) A (.call (.ref f) ⟨.ref (adr .slf) :: vs, []⟩)
      (fun r s' => match r with | .ok (.ret v) => Q v s' | .ok _ => False | .error e => E e s') s₁) E s)
    (hk : cs.kind = .function := by rfl) (hl : (envOf cn cs L a cd).kindOf n = some .local := by rfl) (hd : (n == ("__debug__" : Str)) = false := by decide)
    (he : starEach (e :: rest) (envOf cn cs L a cd) = (false, eval e (envOf cn cs L a cd)) :: starEach rest (envOf cn cs L a cd) := by rfl) (hp : (backTo pos (starEach rest (envOf cn cs L a cd))).any (·.1) = false := by rfl)
    {pl : Sem Bool} (hm : eval (.Call (.Attribute (.Name n p) name apos) (e :: rest) [] pos) (envOf cn cs L a cd) = (do
      let ov ← eval (.Name n p) (envOf cn cs L a cd)
      standAt apos.atName
      let (f, first) ← holding [ov] (getMethod ov name pl)
      callWith pos f first (backTo pos (starEach (e :: rest) (envOf cn cs L a cd))) []) := by rfl) :
    wpAny (model prog w) A (eval (.Call (.Attribute (.Name n p) name apos) (e :: rest) [] pos) (envOf cn cs L a cd)) Q E s := by
  obtain ⟨dx, es, k, I, hg⟩ := R.h_not hnot
  refine MethodCall_ (ld F hx ?_ hk hl hd) hm
  refine method_inst F G.K I (by have := c.plain; exact this) M.find M.fn.fn hg ?_
  rw [he] at hq ⊢
  refine callWith_of (P := K.In) (by show ((false || (backTo pos (starEach rest (envOf cn cs L a cd))).any (·.1)) || false) = false; rw [hp]; rfl) (keeps_K M.fn.keep) (evalArgs_plain ?_)
  exact wpAny_mono hq (fun vs s₁ hs => ⟨G.in hs.1, wpAny_call hs.2⟩) fun _ _ x => x
end
end Dp
end
section
open PySem PySem.W PySem.Calls PyProof.Rows
namespace Dp
theorem below_go (xs : Array Nat) (j : Nat) (up : Up xs.toList) : ∀ (fuel lo hi : Nat), hi - lo ≤ fuel → lo ≤ hi → hi ≤ xs.size → (∀ i, i < lo → xs.getD i 0 < j) → (∀ i, hi ≤ i → i < xs.size → j ≤ xs.getD i 0) →
    SetTable.below.go xs j fuel lo hi ≤ xs.size ∧ (∀ i, i < SetTable.below.go xs j fuel lo hi → xs.getD i 0 < j) ∧ ∀ i, SetTable.below.go xs j fuel lo hi ≤ i → i < xs.size → j ≤ xs.getD i 0 := by
  have mono : ∀ i k, i < k → k < xs.size → xs.getD i 0 < xs.getD k 0 := by
    intro i k hik hk
    have := List.pairwise_iff_getElem.mp up i k (by simpa using Nat.lt_trans hik hk) (by simpa using hk) hik
    simpa [Array.getD, hk, Nat.lt_trans hik hk] using this
  intro fuel
  induction fuel with
  | zero => intro lo hi hf hlh hh h1 h2; unfold SetTable.below.go; exact ⟨by omega, h1, fun i a b => h2 i (by omega) b⟩
  | succ fuel ih =>
    intro lo hi hf hlh hh h1 h2
    unfold SetTable.below.go
    by_cases hlt : lo < hi
    · rw [if_pos hlt]
      have hmid : (lo + hi) / 2 < xs.size := by omega
      have hgd : xs.getD ((lo + hi) / 2) j = xs.getD ((lo + hi) / 2) 0 := by simp [Array.getD, hmid]
      dsimp only
      rw [hgd]
      by_cases hm : xs.getD ((lo + hi) / 2) 0 < j
      · rw [if_pos hm]
        refine ih _ _ (by omega) (by omega) hh (fun i hi' => ?_) h2
        rcases Nat.lt_or_ge i ((lo + hi) / 2) with q | q
        · exact Nat.lt_trans (mono _ _ q hmid) hm
        · have : i = (lo + hi) / 2 := by omega
          rw [this]; exact hm
      · rw [if_neg hm]
        refine ih _ _ (by omega) (by omega) (by omega) h1 (fun i a b => ?_)
        rcases Nat.lt_or_ge ((lo + hi) / 2) i with q | q
        · have := mono _ _ q b; omega
        · have : i = (lo + hi) / 2 := by omega
          rw [this]; omega
    · rw [if_neg hlt]
      exact ⟨by omega, h1, fun i a b => h2 i (by omega) b⟩
theorem below_spec (xs : Array Nat) (j : Nat) (up : Up xs.toList) : SetTable.below xs j ≤ xs.size ∧ (∀ i, i < SetTable.below xs j → xs.getD i 0 < j) ∧ ∀ i, SetTable.below xs j ≤ i → i < xs.size → j ≤ xs.getD i 0 := by
  unfold SetTable.below
  exact below_go xs j up _ _ _ (by omega) (by omega) (Nat.le_refl _) (fun i h => by omega) (fun i a b => by omega)
theorem insertAt_toList {α : Type} (xs : Array α) (p : Nat) (x : α) : (SetTable.insertAt xs p x).toList = xs.toList.take p ++ x :: xs.toList.drop p := by
  exact SetTable.toList_insertAt xs p x
theorem eraseAt_toList {α : Type} (xs : Array α) (p : Nat) : (SetTable.eraseAt xs p).toList = xs.toList.take p ++ xs.toList.drop (p + 1) := by
  unfold SetTable.eraseAt
  simp [List.extract_eq_take_drop, List.take_of_length_le]
theorem getD_toList (xs : Array Nat) (i : Nat) : xs.getD i 0 = xs.toList.getD i 0 := by simp [Array.getD, List.getD, Array.getElem?_toList]; split <;> simp_all
theorem up_insert {xs : Array Nat} {j : Nat} (up : Up xs.toList) (n : j ∉ xs.toList) : Up (SetTable.insertAt xs (SetTable.below xs j) j).toList := by
  obtain ⟨h1, h2, h3⟩ := below_spec xs j up
  rw [insertAt_toList]
  generalize SetTable.below xs j = p at h1 h2 h3
  have e : xs.toList.take p ++ xs.toList.drop p = xs.toList := List.take_append_drop ..
  unfold Up at up ⊢
  rw [← e, List.pairwise_append] at up
  rw [List.pairwise_append]
  refine ⟨up.1, List.pairwise_cons.mpr ⟨fun b hb => ?_, up.2.1⟩, fun a ha b hb => ?_⟩
  · obtain ⟨i, hi, rfl⟩ := List.mem_iff_getElem.mp hb
    rw [List.length_drop] at hi
    rw [List.getElem_drop]
    have := h3 (p + i) (by omega) (by rw [← Array.length_toList]; omega)
    rw [getD_toList, List.getD_eq_getElem?_getD, List.getElem?_eq_getElem (by omega)] at this
    simp only [Option.getD_some] at this
    have hne : xs.toList[p + i]'(by omega) ≠ j := fun q => n (q ▸ List.getElem_mem _)
    omega
  · rcases List.mem_cons.mp hb with rfl | hb
    · obtain ⟨i, hi, rfl⟩ := List.mem_iff_getElem.mp ha
      rw [List.length_take] at hi
      rw [List.getElem_take]
      have := h2 i (by omega)
      rw [getD_toList, List.getD_eq_getElem?_getD, List.getElem?_eq_getElem (by omega)] at this
      simpa using this
    · exact up.2.2 a ha b hb
theorem up_erase {xs : Array Nat} {p : Nat} (up : Up xs.toList) : Up (SetTable.eraseAt xs p).toList := by
  rw [eraseAt_toList, ← List.eraseIdx_eq_take_drop_succ]
  exact List.Pairwise.sublist (List.eraseIdx_sublist ..) up
theorem up_range (n : Nat) : Up (Array.range n).toList := by rw [Array.toList_range]; exact List.pairwise_lt_range
theorem slot_free {t : SetTable} {j : Nat} (up : Up t.place.toList) (h : t.slot j = .empty ∨ t.slot j = .dummy) : j ∉ t.place.toList := by
  intro hm
  obtain ⟨i, hi, e⟩ := List.mem_iff_getElem.mp hm
  obtain ⟨h1, h2, h3⟩ := below_spec t.place j up
  have hi' : i < t.place.size := by simpa using hi
  have ei : t.place.getD i 0 = j := by rw [getD_toList, List.getD_eq_getElem?_getD, List.getElem?_eq_getElem hi]; simpa using e
  have hp : SetTable.below t.place j ≤ i := by
    rcases Nat.lt_or_ge i (SetTable.below t.place j) with q | q
    · have := h2 i q; omega
    · exact q
  have hle := h3 (SetTable.below t.place j) (Nat.le_refl _) (by omega)
  have heq : SetTable.below t.place j = i := by
    rcases Nat.lt_or_ge (SetTable.below t.place j) i with q | q
    · have := List.pairwise_iff_getElem.mp up _ i (by simp; omega) hi q
      rw [getD_toList, List.getD_eq_getElem?_getD, List.getElem?_eq_getElem (by simp; omega)] at hle
      simp only [Option.getD_some] at hle
      omega
    · omega
  have : t.place[SetTable.below t.place j]? = some j := by
    rw [heq, ← Array.getElem?_toList, List.getElem?_eq_getElem hi, e]
  unfold SetTable.slot at h
  simp [this] at h
theorem probe_free (t : SetTable) (hashAt : Nat → Int) (h : Int) : ∀ (fuel : Nat) (p : SetTable.Probe) (j : Nat) (d : Option Nat), (∀ x, p.dummy = some x → t.slot x = .dummy) → SetTable.probe.go t hashAt h fuel p = some (.empty j d) → t.slot j = .empty ∧ ∀ x, d = some x → t.slot x = .dummy := by
  have adv : ∀ p : SetTable.Probe, (t.advance p).dummy = p.dummy := by
    intro p; unfold SetTable.advance; split <;> rfl
  intro fuel
  induction fuel with
  | zero => intro p j d _ e; unfold SetTable.probe.go at e; cases e
  | succ fuel ih =>
    intro p j d hp e
    unfold SetTable.probe.go at e
    cases hs : t.slot p.j with
    | empty => rw [hs] at e; cases e; exact ⟨hs, hp⟩
    | dummy =>
      rw [hs] at e
      refine ih _ j d (fun x hx => ?_) e
      rw [adv] at hx; cases hx; exact hs
    | live i =>
      rw [hs] at e
      dsimp only at e
      split at e
      · cases e
      · exact ih _ j d (fun x hx => by rw [adv] at hx; exact hp x hx) e
theorem freeSlot_free {t : SetTable} {h : Int} {slot : Nat} {b : Bool} (up : Up t.place.toList) (e : t.freeSlot h = some (slot, b)) : slot ∉ t.place.toList := by
  unfold SetTable.freeSlot SetTable.probe at e
  split at e
  · rename_i j d q
    cases e
    obtain ⟨h1, h2⟩ := probe_free t _ _ _ _ _ _ (by intro x hx; unfold SetTable.probeStart at hx; cases hx) q
    cases d with
    | none => exact slot_free up (.inl h1)
    | some x => exact slot_free up (.inr (h2 x rfl))
  · cases e
theorem orStandIn_keep {t : SetTable} (n : Nat) (up : Up t.place.toList) : Up (t.orStandIn n).place.toList ∧ (t.orStandIn n).led = t.led := by
  unfold SetTable.orStandIn
  split
  · exact ⟨up, rfl⟩
  · exact ⟨up_range _, rfl⟩
theorem layNew_keep (t : SetTable) (es : Array (Int × Value)) (h : Int) (x : Value) (up : Up t.place.toList) : Up (layNew t es h x).2.1.place.toList ∧ (layNew t es h x).2.1.led = t.led := by
  unfold layNew
  split
  · rename_i slot d q
    exact orStandIn_keep (t := (t.put slot).1) _ (up_insert up (freeSlot_free up q))
  · exact ⟨up_range _, rfl⟩
theorem relayAll_keep (t : SetTable) (es : Array (Int × Value)) (n : Nat) : Up (relayAll t es n).2.1.place.toList ∧ (relayAll t es n).2.1.led = t.led := by
  unfold relayAll
  split
  · rename_i t' order q
    dsimp only
    split
    · unfold SetTable.relaid SetTable.laid at q
      cases hl : SetTable.layClean (SetTable.sizeAbove n - 1) (es.map (·.1)) with
      | none => rw [hl] at q; cases q
      | some owner =>
        rw [hl] at q
        cases q
        refine ⟨?_, rfl⟩
        unfold Up
        dsimp only
        rw [List.map_filterMap]
        have : ∀ (l : List Nat), (l.filterMap fun j => ((owner.getD j none).map (j, ·)).map (·.1)).Sublist l := by
          intro l
          induction l with
          | nil => exact .slnil
          | cons a r ih =>
            rw [List.filterMap_cons]
            cases owner.getD a none with
            | none => exact ih.cons _
            | some v => exact ih.cons_cons _
        exact List.Pairwise.sublist (this _) List.pairwise_lt_range
    · exact ⟨up_range _, rfl⟩
  · exact ⟨up_range _, rfl⟩
end Dp
end
section
open PySem PySem.W PySem.Calls PyProof.Rows
namespace Dp
section
variable {prog : Program} {w : World} {A : Around} {E : Value → Shared → Prop} {s : Shared} {h : Heap} {a : Addr} {o : Obj} {ns : List Int}
theorem Ent.elem {e : Int × Value} (x : Ent e) : (∃ k, (intKind prog w).is k e.2 = true ∧ e.1 = (intKind prog w).hash k) ∧ e.2.scannable = true := by
  obtain ⟨n, tk, rfl⟩ := x
  exact ⟨⟨n, intKind_is _ _ _ _, rfl⟩, rfl⟩
theorem Ent.is {e : Int × Value} (x : Ent e) (k : Int) : (intKind prog w).is k e.2 = decide (k = dec e) := by
  obtain ⟨n, tk, rfl⟩ := x
  exact KeyKind.is_eq_decide (intKind_is _ _ _ _) k
theorem IntSet.setOf (x : IntSet w o ns) (ho : h.get? a = some o) (hb : ns.length < scanBound) : h.SetOf (intKind prog w) a (fun k => decide (k ∈ ns)) ns.length := by
  obtain ⟨es, ep, t, rfl, he, hp, hn, g⟩ := x
  have hlen : es.size = ns.length := by rw [← Array.length_toList, ← hp.length_eq, List.length_map]
  refine ⟨_, es, ep, t, ho, ⟨rfl, rfl, rfl⟩, rfl, fun e q => (he e q).elem, fun k => ?_, by omega, g.fits, hlen⟩
  rw [decide_eq_true_iff, ← hp.mem_iff, List.mem_map]
  constructor
  · rintro ⟨e, q, rfl⟩; exact ⟨e, q, by rw [(he e q).is, decide_eq_true_iff]⟩
  · rintro ⟨e, q, z⟩; rw [(he e q).is, decide_eq_true_iff] at z; exact ⟨e, q, z.symm⟩
theorem scan_is (es : List (Int × Value)) (he : ∀ e ∈ es, Ent e) (n : Int) : (es.findIdx? fun e => (intKind prog w).is n e.2) = es.findIdx? fun e => decide (n = dec e) := by
  induction es with
  | nil => rfl
  | cons e r ih => rw [List.findIdx?_cons, List.findIdx?_cons, (he e (.head _)).is, ih fun x q => he x (.tail _ q)]
theorem store_same {es es' : Array (Int × Value)} {ep : Nat} {t t' : SetTable} {Q : Unit → Shared → Prop} (ho : s.heap.get? a = some { cls := .type "set", dict := none, data := .set es ep t, slots := #[] }) (hz : es'.size < scanBound)
    (hq : ∀ h', Heap.SameBut a s.heap h' → h'.get? a = some { cls := .type "set", dict := none, data := .set es' (ep + 1) t', slots := #[] } → Q () { s with heap := h' }) : wpAny (model prog w) A (storeSet a es' t') Q E s :=
  wpAny_storeSet_of ho rfl (hq _ (Heap.SameBut.update ..) (Heap.get?_update_self _ ho rfl)) (fits_of_scanBound hz)
theorem add_tail {g : Bool → Sem Unit} (hg : ∀ (b : Bool) (s₁ : Shared) (Q' : Unit → Shared → Prop), Q' () s₁ → wpAny (model prog w) A (g b) Q' E s₁) {es es1 : Array (Int × Value)} {ep : Nat} {t t2 : SetTable}
    (ho : s.heap.get? a = some { cls := .type "set", dict := none, data := .set es ep t, slots := #[] }) (he1 : ∀ e ∈ es1.toList, Ent e) (hp1 : (es1.toList.map dec).Perm ns) (hn1 : ns.Nodup) (hz1 : es1.size < scanBound)
    (hf : t2.fits es1.size = true) (up : Up t2.place.toList) (led : t2.led = !(w.params.followText "set-order")) {wasDummy : Bool} {R : Option Bool → Shared → Prop}
    (hq : ∀ h' o', Heap.SameBut a s.heap h' → h'.get? a = some o' → IntSet w o' ns → R (some true) { s with heap := h' }) :
    wpAny (model prog w) A (do
        storeSet a es1 t2
        if (!wasDummy && t2.tooFull) = true then do
            g (relayAll t2 es1 (SetTable.grown es1.size)).2.2
            storeSet a (relayAll t2 es1 (SetTable.grown es1.size)).1 (relayAll t2 es1 (SetTable.grown es1.size)).2.1
            pure (some true)
          else pure (some true)) R E s := by
  refine wpAny_bind (store_same ho hz1 fun h1 sb1 ho1 => ?_)
  split
  · have hp := relayAll_perm t2 es1 (SetTable.grown es1.size)
    have hfr := relayAll_fits t2 es1 (SetTable.grown es1.size)
    have hk := relayAll_keep t2 es1 (SetTable.grown es1.size)
    generalize relayAll t2 es1 (SetTable.grown es1.size) = Rl at hp hfr hk ⊢
    obtain ⟨es2, t3, gave2⟩ := Rl
    dsimp only at hp hfr hk ⊢
    have hsz : es2.size = es1.size := by rw [← Array.length_toList, hp.length_eq, Array.length_toList]
    refine wpAny_bind (hg _ _ _ (wpAny_bind (store_same ho1 (by omega) fun h2 sb2 ho2 => wpAny_pure (hq h2 _ (sb1.trans sb2) ho2 ?_))))
    exact ⟨es2, _, t3, rfl, fun e q => he1 e (hp.mem_iff.mp q), (hp.map dec).trans hp1, hn1, hfr, hk.1, hk.2.trans led⟩
  · exact wpAny_pure (hq h1 _ sb1 ho1 ⟨es1, _, t2, rfl, he1, hp1, hn1, hf, up, led⟩)
theorem set_add {n : Int} {tk : Tok} {Q : Bool → Shared → Prop} (ho : s.heap.get? a = some o) (x : IntSet w o ns) (hb : ns.length + 1 < scanBound)
    (hq : ∀ h' o', Heap.SameBut a s.heap h' → h'.get? a = some o' → IntSet w o' (if n ∈ ns then ns else ns ++ [n]) → Q (decide (n ∉ ns)) { s with heap := h' }) :
    wpAny (model prog w) A (setAddHashed a (.int n tk) (hashInt n)) Q E s := by
  have x' := x
  obtain ⟨es, ep, t, rfl, he, hp, hn, g⟩ := x
  have hlen : es.size = ns.length := by rw [← Array.length_toList, ← hp.length_eq, List.length_map]
  have hel : ElemsOf (intKind prog w) es.toList := fun e q => (he e q).elem
  unfold setAddHashed setAddHashedIn
  refine wpAny_holding (wpAny_bind (wpAny_setState_of ho rfl g.fits ?_))
  dsimp only
  rw [byScan_of rfl (by omega) hel]
  simp only [↓reduceIte]
  unfold setAddByScan
  refine wpAny_bind (wpAny_bind (wpAny_rule (wpAny_bind (wpAny_setScan_of (knd := intKind prog w) (k := n) (intKind_is _ _ _ _) ho rfl g.fits hel ?_))))
  rw [scan_is _ he]
  cases hr : es.toList.findIdx? fun e => decide (n = dec e) with
  | some j =>
    obtain ⟨hj, hpj, _⟩ := List.findIdx?_eq_some_iff_getElem.mp hr
    have hm : n ∈ ns := hp.mem_iff.mp (List.mem_map.mpr ⟨_, List.getElem_mem hj, (of_decide_eq_true hpj).symm⟩)
    refine wpAny_pure (wpAny_pure ?_)
    have := hq s.heap _ (Heap.SameBut.refl ..) ho (by rw [if_pos hm]; exact x')
    rw [show decide (n ∉ ns) = false by simp [hm]] at this
    exact this
  | none =>
    have hm : n ∉ ns := by
      intro q
      obtain ⟨e, q, z⟩ := List.mem_map.mp (hp.mem_iff.mpr q)
      have := List.findIdx?_eq_none_iff.mp hr e q
      simp [z] at this
    rw [show decide (n ∉ ns) = true by simp [hm], if_neg hm] at hq
    dsimp only
    have hperm := layNew_perm t es (hashInt n) (.int n tk)
    have hfits := layNew_fits t es (hashInt n) (.int n tk)
    have hkeep := layNew_keep t es (hashInt n) (.int n tk) g.up
    show wpAny (model prog w) A (_ >>= _) _ _ _
    generalize layNew t es (hashInt n) (.int n tk) = Lw at hperm hfits hkeep ⊢
    obtain ⟨es1, t1, wasDummy, gave⟩ := Lw
    dsimp only at hperm hfits hkeep ⊢
    rw [Array.toList_push] at hperm
    have he1 : ∀ e ∈ es1.toList, Ent e := fun e q => by
      rcases List.mem_append.mp (hperm.mem_iff.mp q) with z | z
      · exact he e z
      · rw [List.mem_singleton] at z; subst z; exact ⟨n, tk, rfl⟩
    have hp1 : (es1.toList.map dec).Perm (ns ++ [n]) := by
      have := hperm.map dec
      rw [List.map_append] at this
      exact this.trans (hp.append_right _)
    have hn1 : (ns ++ [n]).Nodup := by
      rw [List.nodup_append]; exact ⟨hn, by simp, fun x hx y hy => by rw [List.mem_singleton] at hy; subst hy; exact fun z => hm (z ▸ hx)⟩
    have hz1 : es1.size < scanBound := by rw [← Array.length_toList, hperm.length_eq, List.length_append, Array.length_toList]; simp; omega
    have hgw : ∀ (b : Bool) {s₁ : Shared} {Q' : Unit → Shared → Prop}, Q' () s₁ → wpAny (model prog w) A (match b with | true => rule "set.scan.the-table-gave-way" | false => pure ()) Q' E s₁ :=
      fun b s₁ Q' z => by cases b <;> first | exact wpAny_pure z | exact wpAny_rule z
    refine wpAny_bind (hgw _ ?_)
    have led1 : t1.led = !(w.params.followText "set-order") := hkeep.2.trans g.led
    split
    · refine wpAny_bind ?_
      rw [hashByValue_scannable 8 (x := .int n tk) rfl]
      refine wpAny_pure (add_tail ?_ ho he1 hp1 hn1 hz1 ?_ ?_ ?_ fun h' o' sb ho' x' => wpAny_pure (hq h' o' sb ho' x'))
      · intro b s₁ Q' z; cases b <;> first | exact wpAny_pure z | exact wpAny_rule z
      · split
        · exact hfits
        · exact SetTable.fits_plain_off hfits
      · split <;> exact hkeep.1
      · split <;> exact led1
    · refine wpAny_bind (wpAny_pure ?_)
      simp only [↓reduceIte]
      refine add_tail ?_ ho he1 hp1 hn1 hz1 hfits hkeep.1 led1 fun h' o' sb ho' x' => wpAny_pure (hq h' o' sb ho' x')
      intro b s₁ Q' z; cases b <;> first | exact wpAny_pure z | exact wpAny_rule z
end
end Dp
end
section
open PySem PySem.W PySem.Calls PyProof.Rows
namespace Dp
section
variable {prog : Program} {w : World} {A : Around} {E : Value → Shared → Prop} {s : Shared} {h : Heap} {a : Addr} {o : Obj} {ns : List Int}
theorem IntSet.typeIs (x : IntSet w o ns) (ho : s.heap.get? a = some o) : s.TypeIs (.ref a) "set" := by
  obtain ⟨es, ep, t, rfl, _⟩ := x; exact ⟨_, ho, rfl⟩
theorem IntSet.noDict (x : IntSet w o ns) (ho : s.heap.get? a = some o) : ∀ b, Value.ref a = .ref b → ∃ ob, s.heap.get? b = some ob ∧ ob.dict = none := by
  obtain ⟨es, ep, t, rfl, _⟩ := x
  intro b e; injection e with e; subst e; exact ⟨_, ho, rfl⟩
theorem getMethod_add {pl : Sem Bool} {Q : Value × List Value → Shared → Prop} (ho : s.heap.get? a = some o) (x : IntSet w o ns) (h : Q (.builtin "set.add", [.ref a]) s) :
    wpAny (model prog w) A (getMethod (.ref a) "add" pl) Q E s := getMethod_builtin (x.typeIs ho) F.plainAttrs_set F.slot_set_add F.type_set_add (x.noDict ho) h
theorem getMethod_remove {pl : Sem Bool} {Q : Value × List Value → Shared → Prop} (ho : s.heap.get? a = some o) (x : IntSet w o ns) (h : Q (.builtin "set.remove", [.ref a]) s) :
    wpAny (model prog w) A (getMethod (.ref a) "remove" pl) Q E s := getMethod_builtin (x.typeIs ho) F.plainAttrs_set F.slot_set_remove F.type_set_remove (x.noDict ho) h
theorem call_add {n : Int} {tk : Tok} {Q : Value → Shared → Prop} (ho : s.heap.get? a = some o) (x : IntSet w o ns) (hb : ns.length + 1 < scanBound)
    (hq : ∀ h' o', Heap.SameBut a s.heap h' → h'.get? a = some o' → IntSet w o' (if n ∈ ns then ns else ns ++ [n]) → Q .none { s with heap := h', toks := s.toks + 1 }) :
    wpAny (model prog w) A (call (.builtin "set.add") [.ref a, .int n tk]) Q E s := by
  refine wpAny_call_entry F.slot_set_add (x.typeIs ho) F.entry_set_add ?_ (F.args_set_add_2 _ _)
  unfold Builtin.«set.add» Builtin.Frozenset.oneOther
  simp only [List.isEmpty_nil, bind_assoc]
  unfold Builtin.Frozenset.addrOf setAdd
  refine wpAny_bind (wpAny_pure (wpAny_bind (wpAny_pure (wpAny_bind (wpAny_holding (wpAny_bind (wpAny_pyHash_int ?_)))))))
  refine set_add (s := { s with toks := s.toks + 1 }) ho x hb fun h' o' sb ho' x' => ?_
  exact wpAny_pure ⟨_, rfl, hq h' o' sb ho' x'⟩
theorem find_in {n : Int} {tk : Tok} {es : Array (Int × Value)} {ep : Nat} {t : SetTable} {Q : Option Nat → Shared → Prop} (ho : s.heap.get? a = some { cls := .type "set", dict := none, data := .set es ep t, slots := #[] })
    (he : ∀ e ∈ es.toList, Ent e) (hf : t.fits es.size = true) (hb : es.size < scanBound) (hq : Q (es.toList.findIdx? fun e => decide (n = dec e)) s) :
    wpAny (model prog w) A (setFind a (.int n tk) (hashInt n)) Q E s := by
  have hel : ElemsOf (intKind prog w) es.toList := fun e q => (he e q).elem
  unfold setFind setFindIn
  refine wpAny_bind (wpAny_setState_of ho rfl hf ?_)
  dsimp only
  rw [byScan_of rfl hb hel]
  simp only [↓reduceIte]
  refine wpAny_bind (wpAny_rule (wpAny_bind (wpAny_setScan_of (knd := intKind prog w) (k := n) (intKind_is _ _ _ _) ho rfl hf hel ?_)))
  rw [scan_is _ he]
  revert hq
  cases es.toList.findIdx? fun e => decide (n = dec e) with
  | none => intro hq; exact wpAny_pure hq
  | some j =>
    intro hq
    refine wpAny_pure (a := some (0 + j)) ?_
    rw [Nat.zero_add]; exact hq
theorem place_le {t : SetTable} {n : Nat} (h : t.fits n = true) : t.place.size = n := by unfold SetTable.fits at h; simp only [Bool.and_eq_true, beq_iff_eq] at h; exact h.1
theorem size_insertAt {α : Type} (xs : Array α) (p : Nat) (x : α) : (SetTable.insertAt xs p x).size = xs.size + 1 := by
  rw [← Array.length_toList, (SetTable.insertAt_perm xs p x).length_eq, Array.length_toList, Array.size_push]
theorem size_eraseAt {α : Type} (xs : Array α) (p : Nat) (hp : p < xs.size) : (SetTable.eraseAt xs p).size = xs.size - 1 := by
  rw [← Array.length_toList, eraseAt_toList, ← List.eraseIdx_eq_take_drop_succ, List.length_eraseIdx]
  simp [hp]
theorem drop_good {t : SetTable} {n i : Nat} (g : Good w t n) (hi : i < n) : Good w (t.drop i) (n - 1) := by
  have hp := place_le g.fits
  have hf := g.fits
  unfold SetTable.drop
  rw [Array.getElem?_eq_getElem (by omega)]
  dsimp only
  refine ⟨?_, up_erase g.up, g.led⟩
  unfold SetTable.fits SetTable.fill at hf ⊢
  simp only [Bool.and_eq_true, beq_iff_eq, decide_eq_true_eq] at hf ⊢
  rw [size_eraseAt _ _ (by omega), size_insertAt]
  omega
theorem set_drop {n : Int} {tk : Tok} {Q : Bool → Shared → Prop} (ho : s.heap.get? a = some o) (x : IntSet w o ns) (hb : ns.length < scanBound)
    (hm : n ∈ ns) (hq : ∀ h' o', Heap.SameBut a s.heap h' → h'.get? a = some o' → IntSet w o' (ns.erase n) → Q true { s with heap := h' }) :
    wpAny (model prog w) A (setDiscardHashed a (.int n tk) (hashInt n)) Q E s := by
  obtain ⟨es, ep, t, rfl, he, hp, hn, g⟩ := x
  have hlen : es.size = ns.length := by rw [← Array.length_toList, ← hp.length_eq, List.length_map]
  unfold setDiscardHashed
  refine wpAny_bind (find_in ho he g.fits (by omega) ?_)
  cases hr : es.toList.findIdx? fun e => decide (n = dec e) with
  | none =>
    obtain ⟨e, q, z⟩ := List.mem_map.mp (hp.mem_iff.mpr hm)
    have := List.findIdx?_eq_none_iff.mp hr e q
    simp [z] at this
  | some j =>
    obtain ⟨hj, hpj, _⟩ := List.findIdx?_eq_some_iff_getElem.mp hr
    have hj' : j < es.size := by simpa using hj
    refine wpAny_bind (wpAny_setState_of ho rfl g.fits ?_)
    refine wpAny_bind (store_same ho (by rw [size_eraseAt _ _ hj']; omega) fun h' sb ho' => wpAny_bind (wpAny_point (wpAny_pure (hq h' _ sb ho' ?_))))
    have hl : (SetTable.eraseAt es j).toList = es.toList.eraseIdx j := by rw [eraseAt_toList, ← List.eraseIdx_eq_take_drop_succ]
    have hd : dec es.toList[j] = n := (of_decide_eq_true hpj).symm
    refine ⟨_, _, _, rfl, fun e q => he e ?_, ?_, hn.erase n, by rw [size_eraseAt _ _ hj']; exact drop_good g hj'⟩
    · rw [hl] at q; exact List.mem_of_mem_eraseIdx q
    · rw [hl]
      have h1 : (es.toList.map dec).Perm (n :: (es.toList.eraseIdx j).map dec) := by
        have e1 : es.toList = es.toList.take j ++ es.toList[j] :: es.toList.drop (j + 1) := by rw [List.getElem_cons_drop]; exact (List.take_append_drop j _).symm
        have e2 : es.toList.eraseIdx j = es.toList.take j ++ es.toList.drop (j + 1) := List.eraseIdx_eq_take_drop_succ ..
        rw [e2]
        conv => lhs; rw [e1]
        rw [List.map_append, List.map_cons, hd, List.map_append]
        exact List.perm_middle
      have h2 := (h1.symm.trans hp).erase n
      rw [List.erase_cons_head] at h2
      exact h2
theorem call_remove {n : Int} {tk : Tok} {Q : Value → Shared → Prop} (ho : s.heap.get? a = some o) (x : IntSet w o ns) (hb : ns.length < scanBound) (hm : n ∈ ns)
    (hq : ∀ h' o', Heap.SameBut a s.heap h' → h'.get? a = some o' → IntSet w o' (ns.erase n) → Q .none { s with heap := h', toks := s.toks + 1 }) :
    wpAny (model prog w) A (call (.builtin "set.remove") [.ref a, .int n tk]) Q E s := by
  refine wpAny_call_entry F.slot_set_remove (x.typeIs ho) F.entry_set_remove ?_ (F.args_set_remove_2 _ _)
  unfold Builtin.«set.remove» Builtin.Frozenset.oneOther
  simp only [List.isEmpty_nil, bind_assoc]
  unfold Builtin.Frozenset.addrOf Builtin.Frozenset.withSetAsKey setDiscard
  refine wpAny_bind (wpAny_pure (wpAny_bind (wpAny_pure (wpAny_bind (wpAny_tryCatch (wpAny_holding (wpAny_bind (wpAny_pyHash_int ?_))))))))
  refine set_drop (s := { s with toks := s.toks + 1 }) ho x hb hm fun h' o' sb ho' x' => ?_
  exact wpAny_pure ⟨_, rfl, hq h' o' sb ho' x'⟩
theorem in_set {n : Int} {tk : Tok} {Q : Value → Shared → Prop} (ho : s.heap.get? a = some o) (x : IntSet w o ns) (hb : ns.length < scanBound) (hq : Q (.bool (decide (n ∈ ns))) { s with toks := s.toks + 1 }) :
    wpAny (model prog w) A (compareOp .In (.int n tk) (.ref a)) Q E s := wpAny_inSet_of (intKind_is _ _ _ _) rfl (x.setOf ho hb) hq
theorem new_set {Q : Value → Shared → Prop} (hq : ∀ o, IntSet w o [] → o.isFreed = false → Q (.ref s.heap.objs.size) { s with heap := s.heap.push o }) :
    wpAny (model prog w) A (newSet (.type "set")) Q E s := by
  unfold newSet setsByText
  refine wpAny_bind (wpAny_bind (wpAny_askSetting (wpAny_pure ?_)))
  dsimp only
  simp only [newObj]
  refine wpAny_bind (wpAny_alloc (wpAny_pure (hq _ ⟨#[], 0, _, rfl, fun e q => (nomatch q), .nil, List.nodup_nil, ⟨rfl, .nil, rfl⟩⟩ rfl)))
end
end Dp
end
section
open PySem PySem.W PySem.Calls PyProof.Rows
namespace Dp
section
variable {prog : Program} {w : World} {A : Around} {E : Value → Shared → Prop} {s : Shared} {h : Heap} {a : Addr} {o : Obj} {ns : List Int}
def setNew (w : World) : Obj := { cls := .type "set", dict := none, data := .set #[] 0 (.fresh 0 0 (!(w.params.followText "set-order"))), slots := #[] }
theorem setNew_is : IntSet w (setNew w) [] := ⟨#[], 0, _, rfl, fun e q => (nomatch q), .nil, List.nodup_nil, ⟨rfl, .nil, rfl⟩⟩
theorem set_made (args : List Value) (hc : checkBuiltinCall "set.__new__" ⟨.type "set" :: args, []⟩ = pure ()) {Q : Value → Shared → Prop}
    (hq : Q (.ref s.heap.objs.size) { s with heap := s.heap.push (setNew w) }) :
    codeAny (model prog w) A (.call (.builtin "set.__new__") ⟨.type "set" :: args, []⟩) (wants Q E) s := by
  refine codeAny_of_tree ?_
  show wpAny _ A.in1 (do checkBuiltinCall "set.__new__" ⟨.type "set" :: args, []⟩; again (.builtin "set.__new__" ⟨.type "set" :: args, []⟩)) _ _ s
  refine wpAny_bind (wpAny_of_eq hc (wpAny_pure ⟨plainId_quiet F.plain_set_new _, codeAny_builtin F.entry_set_new ?_⟩))
  rw [Around.under_plainId F.plain_set_new _]
  unfold Builtin.«set.__new__» Builtin.Frozenset.newClass
  have hsub := sub_set_self
  refine wpAny_bind (wpAny_bind ?_)
  wp_walk
  refine wpAny_askSetting (wpAny_pure ?_)
  dsimp only
  simp only [newObj]
  exact wpAny_bind (wpAny_alloc (wpAny_pure (wpAny_pure hq)))
theorem call_set_by (args : List Value) (hc : checkBuiltinCall "set.__new__" ⟨.type "set" :: args, []⟩ = pure ()) (hct : checkTypeCall "set" ⟨args, []⟩ = pure ()) {Q : Value → Shared → Prop}
    (hq : codeAny (model prog w) A.in1 (.call (.builtin "set.__init__") ⟨.ref s.heap.objs.size :: args, []⟩) (wants (fun r s₂ => r = .none ∧ Q (.ref s.heap.objs.size) s₂) E) { s with heap := s.heap.push (setNew w) }) :
    wpAny (model prog w) A (call (.type "set") args) Q E s := by
  obtain ⟨c, tl, hmro⟩ := F.called_set.mro
  have hmade := F.called_set.made
  have hsub := F.called_set.sub
  refine wpAny_call (codeAny_of_tree ?_)
  show wpAny _ _ (callAny (.type "set") _) _ _ _
  refine wpAny_pure ⟨Code.quiet_builtin _ (by decide +kernel), codeAny_builtin F.entry_type_call ?_⟩
  rw [Around.under_plain (weight_type_call_type "set" args []) rfl]
  have h1 := F.called_set.notType
  have h2 := F.called_set.canCreate
  repeat (any_goals (first | assumption | wp_step))
  refine codeAny_mono (set_made args hc (E := E) (Q := fun obj s₁ => obj = .ref s.heap.objs.size ∧ s₁ = { s with heap := s.heap.push (setNew w) }) ⟨rfl, rfl⟩) fun r s₁ hr => ?_
  cases r with
  | error e => exact hr
  | ok fl =>
    cases fl with
    | ret obj =>
      obtain ⟨rfl, rfl⟩ := hr
      have hS : (s.heap.push (setNew w)).get? s.heap.objs.size = some (setNew w) := Heap.get?_push_size _ rfl
      have hT : Shared.TypeIs { s with heap := s.heap.push (setNew w) } (.ref s.heap.objs.size) "set" := ⟨_, hS, rfl⟩
      have hli := F.called_set.init.lookup
      have hbi := F.called_set.init.bind (.ref s.heap.objs.size)
      repeat (any_goals (first | assumption | wp_step))
      refine codeAny_mono hq fun r₂ s₂ hr₂ => ?_
      cases r₂ with
      | error e => exact hr₂
      | ok fl₂ =>
        cases fl₂ with
        | ret r =>
          obtain ⟨rfl, hq⟩ := hr₂
          repeat (any_goals (first | assumption | wp_step))
        | _ => exact hr₂.elim
    | _ => exact hr.elim
theorem call_set0 {Q : Value → Shared → Prop} (hq : Q (.ref s.heap.objs.size) { s with heap := s.heap.push (setNew w) }) : wpAny (model prog w) A (call (.type "set") []) Q E s := by
  have hS : (s.heap.push (setNew w)).get? s.heap.objs.size = some (setNew w) := Heap.get?_push_size _ rfl
  have hT : Shared.TypeIs { s with heap := s.heap.push (setNew w) } (.ref s.heap.objs.size) "set" := ⟨_, hS, rfl⟩
  refine call_set_by [] F.newCall_set_0 F.typeCall_set_0 (codeAny_call_builtin F.called_set.init.plain F.entry_set_init (check_set_init hT ?_))
  unfold Builtin.«set.__init__» noKeywords
  unfold setNew at hS ⊢
  wp_walk
  exact ⟨rfl, hq⟩
end
end Dp
end
section
open PySem PySem.W PySem.Calls PyProof.Rows
namespace Dp
section
variable {prog : Program} {w : World} {A : Around} {E : Value → Shared → Prop} {s : Shared} {h : Heap} {a : Addr} {o : Obj} {ns : List Int}
theorem ints_at {vs : List Value} {ns : List Int} (x : IntsAre vs ns) {i : Nat} {v : Value} (e : vs[i]? = some v) : ∃ n t, ns[i]? = some n ∧ v = .int n t := by
  induction x generalizing i with
  | nil => simp at e
  | cons n t _ ih =>
    cases i with
    | zero => simp at e; exact ⟨n, t, rfl, e.symm⟩
    | succ i => simp at e; simpa using ih e
theorem ints_len {vs : List Value} {ns : List Int} (x : IntsAre vs ns) : vs.length = ns.length := by
  induction x with
  | nil => rfl
  | cons _ _ _ ih => simp [ih]
theorem two_step {a b : Addr} {h h' h'' : Heap} (x : Heap.SameBut a h h') (y : Heap.SameBut b h' h'') {c : Addr} (ha : c ≠ a) (hb : c ≠ b) : h''.get? c = h.get? c := (y.2 c hb).trans (x.2 c ha)
theorem update_loop {Sa it l : Addr} {vs : List Value} {R : Result → Shared → Prop} (hh : A.handled = none) (hi : IntsAre vs ns) (hn : ns.Nodup) (hb : ns.length + 1 < scanBound) (h1 : Sa ≠ it) (h2 : Sa ≠ l) (h3 : it ≠ l) :
    ∀ (k i : Nat) (s : Shared) (o : Obj), ns.length - i = k → i ≤ ns.length → s.heap.IsListIter it l i → s.heap.IsList l vs.toArray → s.heap.get? Sa = some o → IntSet w o (ns.take i) →
      (∀ h' tk o', (∀ b, b ≠ Sa → b ≠ it → ∀ ob, s.heap.get? b = some ob → h'.get? b = some ob) → h'.get? Sa = some o' → IntSet w o' ns → R (.ok (.ret .none)) { s with heap := h', toks := tk }) →
      codeAny (model prog w) A (.builtin "set.update.loop" ⟨[.ref Sa, .ref it], []⟩) R s := by
  intro k
  induction k with
  | zero =>
    intro i s o hk hile hit hl hS x hR
    have hin : i = ns.length := by omega
    refine codeAny_builtin F.entry_set_update_loop ?_
    rw [Around.under_plainId F.plain_set_update_loop _]
    show wpAny _ A.in1 (pyNext (.ref it) >>= _) _ _ s
    refine wpAny_bind (wpAny_pyNext_list_end hh hit hl (by rw [List.getElem?_toArray, List.getElem?_eq_none]; rw [ints_len hi]; omega) fun h' ex => ?_)
    refine wpAny_pure (hR h' s.toks o (fun b _ hb ob e => ex b ob hb e) (ex Sa o h1 hS) (by rw [hin, List.take_length] at x; exact x))
  | succ k ih =>
    intro i s o hk hile hit hl hS x hR
    have hlt : i < ns.length := by omega
    have hx : vs[i]? = some (vs[i]'(by rw [ints_len hi]; exact hlt)) := List.getElem?_eq_getElem _
    obtain ⟨n, t, hn', ev⟩ := ints_at hi hx
    rw [ev] at hx
    have htk : ns.take (i + 1) = ns.take i ++ [n] := by rw [List.take_add_one, hn']; rfl
    have hfresh : n ∉ ns.take i := by
      have : (ns.take i ++ [n]).Nodup := htk ▸ (hn.sublist (List.take_sublist _ _))
      rw [List.nodup_append] at this
      exact fun q => this.2.2 n q n (by simp) rfl
    refine codeAny_builtin F.entry_set_update_loop ?_
    rw [Around.under_plainId F.plain_set_update_loop _]
    show wpAny _ A.in1 (pyNext (.ref it) >>= _) _ _ s
    refine wpAny_bind (wpAny_pyNext_list_item hit hl (by rw [List.getElem?_toArray]; exact hx) fun h' hit' sb => ?_)
    show wpAny _ A.in1 (holding [Value.int n t] (setAdd Sa (.int n t)) >>= _) _ _ _
    refine wpAny_bind (wpAny_holding ?_)
    unfold setAdd
    refine wpAny_holding (wpAny_bind (wpAny_pyHash_int ?_))
    refine set_add (s := { s with heap := h', toks := s.toks + 1 }) (o := o) ((sb.2 Sa h1).trans hS) x (by rw [List.length_take]; omega) fun h'' o' sb' ho' x' => ?_
    rw [if_neg hfresh, ← htk] at x'
    refine wpAny_pure ⟨plainId_quiet F.plain_set_update_loop _, ih (i + 1) _ o' (by omega) hlt ?_ ?_ ho' x' fun h₃ tk o'' kk h4 x'' => hR h₃ tk o'' (fun b hb1 hb2 ob e => kk b hb1 hb2 ob ?_) h4 x''⟩
    · exact hit'.at fun ob e => (sb'.2 it (Ne.symm h1)).trans e
    · exact hl.at fun ob e => (two_step sb sb' (Ne.symm h3) (Ne.symm h2)).trans e
    · exact (two_step sb sb' hb2 hb1).trans e
theorem call_setL {l : Addr} {vs : List Value} {Q : Value → Shared → Prop} (hh : A.handled = none) (hl : s.heap.IsList l vs.toArray) (hi : IntsAre vs ns) (hn : ns.Nodup) (hb : ns.length + 1 < scanBound)
    (hq : ∀ h' tk o', (∀ b ob, s.heap.get? b = some ob → h'.get? b = some ob) → s.heap.get? s.heap.objs.size = none → h'.get? s.heap.objs.size = some o' → IntSet w o' ns → Q (.ref s.heap.objs.size) { s with heap := h', toks := tk }) :
    wpAny (model prog w) A (call (.type "set") [.ref l]) Q E s := by
  have hS : (s.heap.push (setNew w)).get? s.heap.objs.size = some (setNew w) := Heap.get?_push_size _ rfl
  have hT : Shared.TypeIs { s with heap := s.heap.push (setNew w) } (.ref s.heap.objs.size) "set" := ⟨_, hS, rfl⟩
  refine call_set_by [.ref l] (F.newCall_set_1 _) (F.typeCall_set_1 _) (codeAny_call_builtin F.called_set.init.plain F.entry_set_init (check_set_init_1 hT ?_))
  have hl1 : (s.heap.push (setNew w)).IsList l vs.toArray := hl.push _
  obtain ⟨ol, hol, hcl, nl, hdl⟩ := hl
  obtain ⟨ocls, odict, odata, oslots⟩ := ol
  simp only at hcl hdl
  subst hcl; subst hdl
  have hol' : (s.heap.push (setNew w)).get? l = some { cls := .type "list", dict := odict, data := .seq vs.toArray nl, slots := oslots } := Heap.get?_push_of_some _ hol
  have hsls := F.sub_list_set
  have hslf := F.sub_list_frozenset
  have hne : (Value.type "list" == Value.type "dict") = false := by decide
  have hlS : l < s.heap.objs.size := Heap.lt_size hol
  unfold Builtin.«set.__init__» noKeywords Builtin.Frozenset.updateFrom
  generalize hPI : pyIter = PI
  have hS' := hS
  unfold setNew at hS hT hol' ⊢
  wp_walk
  subst hPI
  refine wpAny_pyIter_list hl1 (wpAny_bind (wpAny_runValue ?_))
  refine' update_loop (A := A.in1.in1) hh hi hn hb ?u1 (Nat.ne_of_gt hlS) ?u3 _ 0 _ (setNew w) rfl (Nat.zero_le _) ?u4 ?u5 ?u6 setNew_is (fun h' tk o' kk h4 x => ?u7)
  case u4 => exact ⟨_, Heap.get?_push_size _ rfl, rfl, rfl⟩
  case u5 => exact hl1.push _
  case u6 => exact Heap.get?_push_of_some _ hS'
  · show s.heap.objs.size ≠ (s.heap.push (setNew w)).objs.size
    rw [Heap.size_push]; omega
  · show (s.heap.push (setNew w)).objs.size ≠ l
    rw [Heap.size_push]; exact Nat.ne_of_gt (Nat.lt_succ_of_lt hlS)
  · refine wpAny_pure ?_
    show wpAny _ _ (ret Value.none) _ _ _
    have hnone : s.heap.get? s.heap.objs.size = none := by
      cases q : s.heap.get? s.heap.objs.size with
      | none => rfl
      | some ob => exact absurd (Heap.lt_size q) (Nat.lt_irrefl _)
    refine wpAny_pure ⟨rfl, hq h' tk o' (fun b ob e => kk b ?_ ?_ ob (Heap.get?_push_of_some _ (Heap.get?_push_of_some _ e))) hnone h4 x⟩
    · intro z; subst z; rw [hnone] at e; cases e
    · intro z
      have e3 := Heap.lt_size e
      rw [z] at e3
      have e2 : (s.heap.push (setNew w)).objs.size = s.heap.objs.size + 1 := Heap.size_push _ _
      have e4 : (s.heap.push (setNew w)).objs.size < s.heap.objs.size := e3
      rw [e2] at e4
      exact Nat.not_succ_lt_self e4
end
end Dp
end
section
open PySem PySem.W PySem.Calls PyProof.Rows
namespace Dp
theorem si_owner : Manifest.owners.lookup (String.ofList ['r', 'o', 't', 'a', 'r', 'e', 't', 'i', '_', 't', 'e', 's'].reverse) = some Manifest.sig_set_iterator := by kernel_rfl
theorem si_slot : Slot "set_iterator" "__next__" "set_iterator.__next__" :=
  .of (owner := "set_iterator") (n := "__next__") (by rw [typeLookup_type, builtinLookup_eq_fast]; kernel_rfl) (by decide +kernel) (by decide +kernel) (by decide +kernel)
    (by first | exact .inl (by decide +kernel) | exact .inr (by decide +kernel)) (by rw [isSubtype_type]; kernel_rfl)
theorem si_entry : entryFor table "set_iterator.__next__" = some Builtin.«set_iterator.__next__» := entryFor_of_tree (by kernel_rfl)
theorem si_args (a : Value) : argsOk "set_iterator.__next__" ⟨[a], []⟩ := by
  unfold argsOk; rw [signature?_of (id := "set_iterator.__next__") (n := ['_', '_', 't', 'x', 'e', 'n', '_', '_']) (o := ['r', 'o', 't', 'a', 'r', 'e', 't', 'i', '_', 't', 'e', 's']) (by kernel_rfl) si_owner]; kernel_rfl
theorem siter_entry : entryFor table "set.__iter__" = some Builtin.«frozenset.__iter__» := entryFor_alias (id' := "frozenset.__iter__") (by kernel_rfl) rfl (by decide +kernel) (by kernel_rfl)
theorem erase_perm {α : Type} (l : List α) (i : Nat) (x : α) (e : l[i]? = some x) : (x :: l.eraseIdx i).Perm l := by
  induction l generalizing i with
  | nil => simp at e
  | cons a r ih =>
    cases i with
    | zero => simp at e; subst e; exact .rfl
    | succ i => simp at e; rw [List.eraseIdx_cons_succ]; exact (List.Perm.swap _ _ _).trans ((ih i e).cons a)
theorem pick_perm {α : Type} (next : Nat → Nat) : ∀ (fuel k : Nat) (left : List α) (out : Array α), left.length ≤ fuel → (pickOrder.go next fuel k left out).toList.Perm (out.toList ++ left) := by
  intro fuel
  induction fuel with
  | zero =>
    intro k left out h
    have : left = [] := List.eq_nil_of_length_eq_zero (by omega)
    subst this
    unfold pickOrder.go
    rw [List.append_nil]
  | succ fuel ih =>
    intro k left out h
    unfold pickOrder.go
    cases q : left[next k % left.length]? with
    | none =>
      rcases left with _ | ⟨a, r⟩
      · dsimp only; rw [List.append_nil]
      · rw [List.getElem?_eq_none_iff] at q
        have := Nat.mod_lt (next k) (show 0 < (a :: r).length by simp)
        omega
    | some x =>
      dsimp only
      have hp := erase_perm left _ x q
      have hl := hp.length_eq
      rw [List.length_cons] at hl
      refine (ih _ _ _ (by omega)).trans ?_
      rw [Array.toList_push, List.append_assoc]
      exact (List.Perm.refl _).append hp
theorem pickOrder_perm {α : Type} (next : Nat → Nat) (xs : Array α) : (pickOrder next xs).toList.Perm xs.toList := by
  unfold pickOrder
  have := pick_perm next xs.size 0 xs.toList #[] (by simp)
  simpa using this
section
variable {prog : Program} {w : World} {A : Around} {E : Value → Shared → Prop} {s : Shared} {h h' : Heap} {a : Addr} {o : Obj} {ns : List Int}
theorem choose_any {src : Source} {n : Nat} {Q : Nat → Shared → Prop} (hn : n ≠ 0) (hq : ∀ i, i < n → Q i { s with drawn := s.drawn.bump src }) : wpAny (model prog w) A (choose src n) Q E s := by
  intro Γ p hΓ
  show Sem.wp _ _ (.choose src n .pure) _ _ _ _
  rw [Sem.wp_choose]
  exact ⟨hn, hq _ (Nat.mod_lt _ (Nat.pos_of_ne_zero hn))⟩
theorem drawOrder_any {α : Type} : ∀ (n : Nat) (xs : List α) (s : Shared) {Q : List α → Shared → Prop}, xs.length ≤ n → (∀ l d, l.Perm xs → Q l { s with drawn := d }) → wpAny (model prog w) A (drawOrder n xs) Q E s := by
  intro n
  induction n with
  | zero =>
    intro xs s Q h hq
    have : xs = [] := List.eq_nil_of_length_eq_zero (by omega)
    subst this
    exact wpAny_pure (hq [] s.drawn .rfl)
  | succ n ih =>
    intro xs s Q h hq
    rcases xs with _ | ⟨a, r⟩
    · exact wpAny_pure (hq [] s.drawn .rfl)
    · unfold drawOrder
      refine wpAny_bind ?_
      refine choose_any (by simp) fun i hlt => ?_
      have q : (a :: r)[i]? = some ((a :: r)[i]) := List.getElem?_eq_getElem hlt
      rw [q]
      dsimp only
      have hp := erase_perm (a :: r) i _ q
      have hl := hp.length_eq
      rw [List.length_cons] at hl
      refine wpAny_bind (ih _ _ (by simp at hl h ⊢; omega) fun l d hl' => wpAny_pure (hq _ d ((hl'.cons _).trans hp)))
end
end Dp
end
section
open PySem PySem.W PySem.Calls PyProof.Rows
namespace Dp
abbrev itObj (f : Value) (i : Nat) (sv : Value) (n ep : Nat) : Obj := { cls := .type "set_iterator", dict := none, data := .fields #[f, .int i 0, sv, .int n 0, .int ep 0], slots := #[] }
abbrev setO (es : Array (Int × Value)) (ep : Nat) (t : SetTable) : Obj := { cls := .type "set", dict := none, data := .set es ep t, slots := #[] }
def byText (w : World) : Bool := w.params.followText "set-order"
def SetIt (w : World) (h : Heap) (tmp : List Addr) (it a : Addr) (rest : List Int) : Prop :=
  it ∈ tmp ∧ a ∉ tmp ∧ (∀ b ∈ tmp, ∃ ob, h.get? b = some ob) ∧ ∃ es ep t, h.get? a = some (setO es ep t) ∧ (∀ e ∈ es.toList, Ent e) ∧ Good w t es.size ∧ es.size < scanBound ∧
   ((byText w = true ∧ ∃ sl i, h.get? it = some (itObj (.int (sl : Nat) 0) i (.ref a) es.size ep) ∧ rest = ((pickOrder (w.params.setOrder a ep) es).toList.drop i).map dec) ∨
    (byText w = false ∧ (t.plain = true ∨ es.size ≤ 1) ∧ ∃ sl i, h.get? it = some (itObj (.int (sl : Nat) 0) i (.ref a) es.size ep) ∧ rest = (es.toList.drop (SetTable.below t.place sl)).map dec) ∨
    (byText w = false ∧ ∃ p i, ∃ ks : List Nat, p ∈ tmp ∧ p ≠ it ∧ h.get? p = some (tupO (ks.map fun (k : Nat) => Value.int k 0).toArray) ∧ h.get? it = some (itObj (.ref p) i (.ref a) es.size ep) ∧ (∀ k ∈ ks, k < es.size) ∧ rest = (ks.drop i).map fun k => (es.toList[k]?.map dec).getD 0))
section
variable {prog : Program} {w : World} {A : Around} {E : Value → Shared → Prop} {s : Shared} {h h' : Heap} {a it : Addr} {o : Obj} {ns rest : List Int} {tmp : List Addr}
theorem SetIt.at (x : SetIt w h tmp it a rest) (k : ∀ b o, b = a ∨ b ∈ tmp → h.get? b = some o → h'.get? b = some o) : SetIt w h' tmp it a rest := by
  obtain ⟨m1, m2, lv, es, ep, t, ho, he, g, hb, c⟩ := x
  refine ⟨m1, m2, fun b hb' => let ⟨ob, e⟩ := lv b hb'; ⟨ob, k _ _ (.inr hb') e⟩, es, ep, t, k _ _ (.inl rfl) ho, he, g, hb, ?_⟩
  rcases c with ⟨b, sl, i, h1, e⟩ | ⟨b, pl, sl, i, h1, e⟩ | ⟨b, p, i, ks, m3, m4, h0, h1, z, e⟩
  · exact .inl ⟨b, sl, i, k _ _ (.inr m1) h1, e⟩
  · exact .inr (.inl ⟨b, pl, sl, i, k _ _ (.inr m1) h1, e⟩)
  · exact .inr (.inr ⟨b, p, i, ks, m3, m4, k _ _ (.inr m3) h0, k _ _ (.inr m1) h1, z, e⟩)
theorem SetIt.typeIs (x : SetIt w s.heap tmp it a rest) : s.TypeIs (.ref it) "set_iterator" := by
  obtain ⟨m1, m2, lv, es, ep, t, ho, he, g, hb, c⟩ := x
  rcases c with ⟨b, sl, i, h1, e⟩ | ⟨b, pl, sl, i, h1, e⟩ | ⟨b, p, i, ks, m3, m4, h0, h1, z, e⟩ <;> exact ⟨_, h1, rfl⟩
theorem byText_any {Q : Bool → Shared → Prop} (hq : Q (byText w) s) : wpAny (model prog w) A setsByText Q E s := wpAny_bind (wpAny_askSetting (wpAny_pure hq))
theorem led_of {t : SetTable} {n : Nat} (g : Good w t n) (b : byText w = false) : t.led = true := by rw [g.led]; unfold byText at b; rw [b]; rfl
theorem iter_set {Q : Value → Shared → Prop} (ho : s.heap.get? a = some o) (x : IntSet w o ns) (hb : ns.length < scanBound)
    (hq : ∀ s' tmp it ms, Eff No s s' → (∀ b ∈ tmp, s.heap.get? b = none) → SetIt w s'.heap tmp it a ms → ms.Perm ns → Q (.ref it) s') : wpAny (model prog w) A (pyIter (.ref a)) Q E s := by
  have hT := x.typeIs ho
  obtain ⟨es, ep, t, rfl, he, hp, hn, g⟩ := x
  have hlen : es.size = ns.length := by rw [← Array.length_toList, ← hp.length_eq, List.length_map]
  have hnone : ∀ b, s.heap.objs.size ≤ b → s.heap.get? b = none := fun b hle => by
    cases q : s.heap.get? b with
    | none => rfl
    | some ob => exact absurd (Heap.lt_size q) (Nat.not_lt.mpr hle)
  have ha : a < s.heap.objs.size := Heap.lt_size ho
  refine wpAny_pyIter_slot hT F.slot_set_iter (wpAny_call_entry F.slot_set_iter hT siter_entry ?_ (F.args_set_iter_1 _))
  unfold Builtin.«frozenset.__iter__» Builtin.Frozenset.slot0 slotArgs
  refine wpAny_bind (wpAny_bind (wpAny_pure ?_))
  refine wpAny_pure (a := a) ?_
  refine wpAny_bind (m := Builtin.Frozenset.sizeOf a) (wpAny_bind (wpAny_setEntries_of ho rfl g.fits (wpAny_pure ?_)))
  refine wpAny_bind ?_
  unfold setDrawn
  refine wpAny_bind (wpAny_setState_of ho rfl g.fits (wpAny_bind (byText_any (wpAny_pure ?_))))
  have fin : ∀ (f : Value) (s' : Shared) (ho' : s'.heap.get? a = some (setO es ep t)), Q (.ref s'.heap.objs.size) { s' with heap := s'.heap.push (itObj f 0 (.ref a) es.size ep) } →
      wpAny (model prog w) A.in1 (do
        let e ← setEpoch a
        let r ← newFields "set_iterator" [f, rawInt 0, .ref a, rawInt es.size, rawInt e]
        ret r) (fun fin s' => ∃ v, fin = Fin.done (Flow.ret v) ∧ ∃ T' r, s'.TypeIs v T' ∧ typeLookup (Value.type T') "__next__" = pure (some r) ∧ Q v s') E s' := by
    intro f s' ho' hq'
    refine wpAny_bind (wpAny_setEpoch_of ho' rfl g.fits (wpAny_bind ?_))
    show wpAny _ _ (newObj (.type "set_iterator") (.fields #[f, .int 0 0, .ref a, .int es.size 0, .int ep 0]) none) _ _ _
    exact wpAny_newObj_type (wpAny_pure ⟨_, rfl, "set_iterator", _, ⟨_, Heap.get?_push_size _ rfl, rfl⟩, si_slot.lookup, hq'⟩)
  have one : ∀ (ms : List Int), ms.Perm ns → SetIt w (s.heap.push (itObj (.int (0 : Nat) 0) 0 (.ref a) es.size ep)) [s.heap.objs.size] s.heap.objs.size a ms → Q (.ref s.heap.objs.size) { s with heap := s.heap.push (itObj (.int (0 : Nat) 0) 0 (.ref a) es.size ep) } :=
    fun ms hms hit => hq _ [s.heap.objs.size] _ _ ⟨fun b o _ e => Heap.get?_push_of_some _ e, rfl, rfl⟩ (fun b hb => by rw [List.mem_singleton] at hb; subst hb; exact hnone _ (Nat.le_refl _)) hit hms
  have ho1 : (s.heap.push (itObj (.int (0 : Nat) 0) 0 (.ref a) es.size ep)).get? a = some (setO es ep t) := Heap.get?_push_of_some _ ho
  cases hbt : byText w with
  | true =>
    dsimp only
    rw [if_neg (by simp)]
    refine wpAny_bind (wpAny_pure (fin _ s ho (one _ ?_ ⟨by simp, by simp; exact Nat.ne_of_lt ha, fun b hb => by rw [List.mem_singleton] at hb; subst hb; exact ⟨_, Heap.get?_push_size _ rfl⟩, es, ep, t, ho1, he, g, by omega, .inl ⟨hbt, 0, 0, Heap.get?_push_size _ rfl, rfl⟩⟩)))
    rw [List.drop_zero]
    exact ((pickOrder_perm _ es).map dec).trans hp
  | false =>
    by_cases hpl : (!t.plain && decide (es.size > 1)) = true
    · show wpAny _ _ (if (!t.plain && decide (es.size > 1)) = true then _ else _) _ _ _
      rw [if_pos hpl]
      refine wpAny_bind (drawOrder_any _ _ s (by simp) fun l d hl => wpAny_bind ?_)
      show wpAny _ _ (newTuple (l.map fun (k : Nat) => Value.int k 0)) _ _ _
      have hlen' : l.length = es.size := by rw [hl.length_eq, List.length_range]
      refine wpAny_newObj_type (s := { s with drawn := d }) (fin _ _ (Heap.get?_push_of_some _ ho) ?_) (by show (List.toArray _).size ≤ sizeLine; rw [List.size_toArray, List.length_map, hlen']; exact fits_of_scanBound (by omega))
      have hk : ∀ k ∈ l, k < es.size := fun k hk => List.mem_range.mp (hl.mem_iff.mp hk)
      have hne : s.heap.objs.size ≠ (s.heap.push (tupO (l.map fun (k : Nat) => Value.int k 0).toArray)).objs.size := by rw [Heap.size_push]; exact Nat.ne_of_lt (Nat.lt_succ_self _)
      refine hq _ [s.heap.objs.size, (s.heap.push (tupO (l.map fun (k : Nat) => Value.int k 0).toArray)).objs.size] _ (l.map fun k => (es.toList[k]?.map dec).getD 0) ⟨fun b o _ e => Heap.get?_push_of_some _ (Heap.get?_push_of_some _ e), rfl, rfl⟩ ?_ ⟨by simp, ?_, ?_, es, ep, t, Heap.get?_push_of_some _ (Heap.get?_push_of_some _ ho), he, g, by omega, .inr (.inr ⟨hbt, s.heap.objs.size, 0, l, by simp, hne, Heap.get?_push_of_some _ (Heap.get?_push_size _ rfl), Heap.get?_push_size _ rfl, hk, rfl⟩)⟩ ?_
      · intro b hb
        simp only [List.mem_cons, List.not_mem_nil, or_false] at hb
        rcases hb with rfl | rfl
        · exact hnone _ (Nat.le_refl _)
        · exact hnone _ (by rw [Heap.size_push]; exact Nat.le_succ _)
      · simp only [List.mem_cons, List.not_mem_nil, or_false, not_or]
        exact ⟨Nat.ne_of_lt ha, by rw [Heap.size_push]; exact Nat.ne_of_lt (Nat.lt_succ_of_lt ha)⟩
      · intro b hb
        simp only [List.mem_cons, List.not_mem_nil, or_false] at hb
        rcases hb with rfl | rfl
        · exact ⟨_, Heap.get?_push_of_some _ (Heap.get?_push_size _ rfl)⟩
        · exact ⟨_, Heap.get?_push_size _ rfl⟩
      · refine (hl.map _).trans ?_
        have e1 : (List.range es.size).map (fun k => (es.toList[k]?.map dec).getD 0) = es.toList.map dec := by
          apply List.ext_getElem
          · simp
          · intro i h1 h2
            have : i < es.toList.length := by simpa using h2
            rw [List.getElem_map, List.getElem_map, List.getElem_range, List.getElem?_eq_getElem this]; rfl
        rw [e1]; exact hp
    · show wpAny _ _ (if (!t.plain && decide (es.size > 1)) = true then _ else _) _ _ _
      rw [if_neg hpl]
      have hpl' : t.plain = true ∨ es.size ≤ 1 := by
        cases hq : t.plain with
        | true => exact .inl rfl
        | false => right; simp [hq] at hpl; omega
      refine wpAny_bind (wpAny_pure (fin _ s ho (one _ ?_ ⟨by simp, by simp; exact Nat.ne_of_lt ha, fun b hb => by rw [List.mem_singleton] at hb; subst hb; exact ⟨_, Heap.get?_push_size _ rfl⟩, es, ep, t, ho1, he, g, by omega, .inr (.inl ⟨hbt, hpl', 0, 0, Heap.get?_push_size _ rfl, rfl⟩)⟩)))
      have h0 : SetTable.below t.place 0 = 0 := by
        obtain ⟨h1, h2, _⟩ := below_spec t.place 0 g.up
        rcases Nat.eq_zero_or_pos (SetTable.below t.place 0) with z | z
        · exact z
        · have := h2 0 z; omega
      rw [h0, List.drop_zero]; exact hp
end
end Dp
end
section
open PySem PySem.W PySem.Calls PyProof.Rows
namespace Dp
section
variable {prog : Program} {w : World} {A : Around} {E : Value → Shared → Prop} {s : Shared} {h h' : Heap} {a it : Addr} {o : Obj} {ns rest : List Int} {tmp : List Addr}
theorem setWalk_text {es : Array (Int × Value)} {ep : Nat} {t : SetTable} {Q : Array (Int × Value) → Shared → Prop} (ho : s.heap.get? a = some (setO es ep t)) (g : Good w t es.size) (b : byText w = true) (hq : Q (pickOrder (w.params.setOrder a ep) es) s) :
    wpAny (model prog w) A (setWalk a) Q E s := by
  unfold setWalk
  refine wpAny_bind (wpAny_setState_of ho rfl g.fits (wpAny_bind (byText_any ?_)))
  rw [b]
  try dsimp only
  rw [if_pos rfl]
  exact wpAny_bind (wpAny_askSetting (wpAny_pure hq))
theorem setNext_text {es : Array (Int × Value)} {ep sl i : Nat} {t : SetTable} {Q : Option (Value × Nat) → Shared → Prop} (ho : s.heap.get? a = some (setO es ep t)) (g : Good w t es.size) (b : byText w = true)
    (hq : Q (((pickOrder (w.params.setOrder a ep) es)[i]?).map fun e => (e.2, sl)) s) : wpAny (model prog w) A (setNext a sl i ep) Q E s := by
  unfold setNext
  refine wpAny_bind (wpAny_setState_of ho rfl g.fits (wpAny_bind (byText_any ?_)))
  rw [b]
  dsimp only
  rw [if_pos rfl, if_neg (by simp)]
  exact wpAny_bind (setWalk_text ho g b (wpAny_pure hq))
theorem setNext_row {es : Array (Int × Value)} {ep sl i : Nat} {t : SetTable} {Q : Option (Value × Nat) → Shared → Prop} (ho : s.heap.get? a = some (setO es ep t)) (g : Good w t es.size) (b : byText w = false) (pl : t.plain = true ∨ es.size ≤ 1)
    (hq : Q (match es[SetTable.below t.place sl]?, t.place[SetTable.below t.place sl]? with | some (_, x), some j => some (x, j + 1) | _, _ => none) s) : wpAny (model prog w) A (setNext a sl i ep) Q E s := by
  unfold setNext
  refine wpAny_bind (wpAny_setState_of ho rfl g.fits (wpAny_bind (byText_any ?_)))
  rw [b]
  dsimp only
  rw [if_neg Bool.false_ne_true]
  show wpAny _ _ (if (!t.plain && decide (es.size > 1)) = true then _ else _) _ _ _
  rw [if_neg (by rcases pl with q | q <;> simp [q])]
  have hl := led_of g b
  refine wpAny_bind ?_
  show wpAny _ _ (if (!t.led && !es.isEmpty) = true then _ else _) _ _ _
  rw [if_neg (by simp [hl])]
  exact wpAny_pure (wpAny_pure hq)
theorem setField_it {vs : Array Value} {k : Nat} {v : Value} {Q : Unit → Shared → Prop} (ho : s.heap.get? it = some { cls := .type "set_iterator", dict := none, data := .fields vs, slots := #[] }) (hk : k < vs.size)
    (hq : ∀ h', h'.get? it = some { cls := .type "set_iterator", dict := none, data := .fields (vs.setIfInBounds k v), slots := #[] } → Heap.SameBut it s.heap h' → Q () { s with heap := h' }) : wpAny (model prog w) A (setField (.ref it) k v) Q E s :=
  wpAny_setField_rec ho hk hq
theorem dec_int {e : Int × Value} (x : Ent e) : ∃ tk, e.2 = .int (dec e) tk := by obtain ⟨n, tk, rfl⟩ := x; exact ⟨tk, rfl⟩
theorem next_open {f : Value} {i ep : Nat} {es : Array (Int × Value)} {t : SetTable} {Q : PySem.Fin → Shared → Prop} (ho : s.heap.get? a = some (setO es ep t)) (g : Good w t es.size) (hit : s.heap.get? it = some (itObj f i (.ref a) es.size ep))
    (hq : wpAny (model prog w) A (if let .int slot _ := f then (do
        match ← setNext a slot.toNat (i : Int).toNat (ep : Int).toNat with
        | some (x, next) =>
          setField (.ref it) 0 (rawInt next)
          setField (.ref it) 1 (rawInt ((i : Int) + 1))
          ret x
        | none => setField (.ref it) 2 .none; raiseNew (← newExc (.type "StopIteration") []))
      else (do
        let some places ← seqItems? f | unsupported "internal:set_iterator"
        match places[(i : Int).toNat]? with
        | some (.int place _) =>
          let x ← setNextDrawn a place.toNat (ep : Int).toNat
          setField (.ref it) 1 (rawInt ((i : Int) + 1))
          ret x
        | some _ => unsupported "internal:set_iterator"
        | none => setField (.ref it) 0 (rawInt 0); setField (.ref it) 2 .none; raiseNew (← newExc (.type "StopIteration") []))) Q E s) :
    wpAny (model prog w) A (Builtin.«set_iterator.__next__» ⟨[.ref it], []⟩) Q E s := by
  unfold Builtin.«set_iterator.__next__» slotArgs
  refine wpAny_bind (wpAny_pure (wpAny_bind (wpAny_fieldsOf hit rfl ?_)))
  dsimp only
  refine wpAny_bind (wpAny_setEntries_of ho rfl g.fits ?_)
  rw [if_neg (by simp)]
  exact hq
theorem cons_drop {α : Type} {l : List α} {i : Nat} {x : α} {r : List α} (e : l.drop i = x :: r) : l[i]? = some x ∧ l.drop (i + 1) = r := by
  have h1 : i < l.length := by
    rcases Nat.lt_or_ge i l.length with q | q
    · exact q
    · rw [List.drop_eq_nil_of_le q] at e; cases e
  rw [List.drop_eq_getElem_cons h1] at e
  injection e with e1 e2
  exact ⟨by rw [List.getElem?_eq_getElem h1, e1], e2⟩
theorem map_drop {α β : Type} {f : α → β} {l : List α} {i : Nat} {x : β} {r : List β} (e : x :: r = (l.drop i).map f) : ∃ y, l[i]? = some y ∧ f y = x ∧ r = (l.drop (i + 1)).map f := by
  cases q : l.drop i with
  | nil => rw [q] at e; cases e
  | cons y r' =>
    rw [q, List.map_cons] at e
    injection e with e1 e2
    obtain ⟨h1, h2⟩ := cons_drop q
    exact ⟨y, h1, e1.symm, by rw [h2]; exact e2⟩
theorem nil_drop {α β : Type} {f : α → β} {l : List α} {i : Nat} (e : [] = (l.drop i).map f) : l[i]? = none := by
  have := List.map_eq_nil_iff.mp e.symm
  rw [List.drop_eq_nil_iff] at this
  exact List.getElem?_eq_none this
theorem below_next {xs : Array Nat} {p j : Nat} (up : Up xs.toList) (e : xs[p]? = some j) : SetTable.below xs (j + 1) = p + 1 := by
  obtain ⟨h1, h2, h3⟩ := below_spec xs (j + 1) up
  have hp : p < xs.size := by rcases Nat.lt_or_ge p xs.size with q | q; exact q; rw [Array.getElem?_eq_none q] at e; cases e
  have hg : ∀ i (hi : i < xs.size), xs.getD i 0 = xs.toList[i]'(by simpa using hi) := fun i hi => by rw [getD_toList, List.getD_eq_getElem?_getD, List.getElem?_eq_getElem (by simpa using hi)]; rfl
  have ej : xs.toList[p]'(by simpa using hp) = j := by rw [← Array.getElem?_toList, List.getElem?_eq_getElem (by simpa using hp)] at e; exact Option.some.inj e
  rcases Nat.lt_trichotomy (SetTable.below xs (j + 1)) (p + 1) with q | q | q
  · have := h3 p (by omega) hp
    rw [hg p hp, ej] at this; omega
  · exact q
  · have h4 := h2 (p + 1) q
    have hp1 : p + 1 < xs.size := by omega
    rw [hg _ hp1] at h4
    have := List.pairwise_iff_getElem.mp up p (p + 1) (by simpa using hp) (by simpa using hp1) (by omega)
    rw [ej] at this; omega
theorem next_item {n : Int} {Q : Option Value → Shared → Prop} (x : SetIt w s.heap tmp it a (n :: rest))
    (hq : ∀ h' tk, Heap.SameBut it s.heap h' → SetIt w h' tmp it a rest → Q (some (.int n tk)) { s with heap := h' }) : wpAny (model prog w) A (pyNext (.ref it)) Q E s := by
  have hT := x.typeIs
  obtain ⟨m1, m2, lv, es, ep, t, ho, he, g, hb, c⟩ := x
  have hai : a ≠ it := fun z => m2 (z ▸ m1)
  have lv' : ∀ (h' : Heap) (oi : Obj), Heap.SameBut it s.heap h' → h'.get? it = some oi → ∀ b ∈ tmp, ∃ ob, h'.get? b = some ob := fun h' oi sb e b hb' => by
    by_cases z : b = it
    · subst z; exact ⟨oi, e⟩
    · obtain ⟨ob, q⟩ := lv b hb'; exact ⟨ob, (sb.2 b z).trans q⟩
  unfold pyNext
  refine wpAny_bind (wpAny_attempt (wpAny_callSpecial?_slot (name := Str.ofString "__next__") hT si_slot (wpAny_call_entry si_slot hT si_entry ?_ (si_args _))))
  rcases c with ⟨b, sl, i, h1, e⟩ | ⟨b, pl, sl, i, h1, e⟩ | ⟨b, p, i, ks, m3, m4, h0, h1, z, e⟩
  · obtain ⟨y, h2, h3, h4⟩ := map_drop e
    have hy : Ent y := he y ((pickOrder_perm _ es).mem_iff.mp (List.mem_of_getElem? h2))
    obtain ⟨tk, ey⟩ := dec_int hy
    refine next_open ho g h1 (wpAny_bind (setNext_text ho g b ?_))
    simp only [Int.toNat_natCast]
    rw [← Array.getElem?_toList, h2]
    dsimp only [Option.map]
    refine wpAny_bind (setField_it h1 (by simp) fun h' a1 sb => wpAny_bind (setField_it (s := { s with heap := h' }) a1 (by simp) fun h'' a2 sb' => ?_))
    rw [ey, h3]
    refine wpAny_pure ⟨_, rfl, wpAny_pure (hq h'' tk (sb.trans sb') ⟨m1, m2, lv' _ _ (sb.trans sb') a2, es, ep, t, ((sb.trans sb').2 a hai).trans ho, he, g, hb, .inl ⟨b, sl, i + 1, ?_, h4⟩⟩)⟩
    rw [a2]; rfl
  · obtain ⟨y, h2, h3, h4⟩ := map_drop e
    have hy : Ent y := he y (List.mem_of_getElem? h2)
    obtain ⟨tk, ey⟩ := dec_int hy
    have hp := place_le g.fits
    have hlt : SetTable.below t.place sl < es.size := by
      rcases Nat.lt_or_ge (SetTable.below t.place sl) es.size with q | q
      · exact q
      · rw [Array.getElem?_toList, Array.getElem?_eq_none q] at h2; cases h2
    have hpl : t.place[SetTable.below t.place sl]? = some (t.place[SetTable.below t.place sl]'(by omega)) := Array.getElem?_eq_getElem _
    refine next_open ho g h1 (wpAny_bind (setNext_row ho g b pl ?_))
    simp only [Int.toNat_natCast]
    rw [← Array.getElem?_toList, h2, hpl]
    obtain ⟨yh, yv⟩ := y
    dsimp only at ey ⊢
    refine wpAny_bind (setField_it h1 (by simp) fun h' a1 sb => wpAny_bind (setField_it (s := { s with heap := h' }) a1 (by simp) fun h'' a2 sb' => ?_))
    rw [ey, h3]
    refine wpAny_pure ⟨_, rfl, wpAny_pure (hq h'' tk (sb.trans sb') ⟨m1, m2, lv' _ _ (sb.trans sb') a2, es, ep, t, ((sb.trans sb').2 a hai).trans ho, he, g, hb, .inr (.inl ⟨b, pl, t.place[SetTable.below t.place sl]'(by omega) + 1, i + 1, ?_, ?_⟩)⟩)⟩
    · rw [a2]; rfl
    · rw [h4, below_next g.up hpl]
  · obtain ⟨k, h2, h3, h4⟩ := map_drop e
    have hk := z k (List.mem_of_getElem? h2)
    obtain ⟨y, hy⟩ : ∃ y, es.toList[k]? = some y := ⟨_, List.getElem?_eq_getElem (by simpa using hk)⟩
    obtain ⟨tk, ey⟩ := dec_int (he _ (List.mem_of_getElem? hy))
    rw [hy] at h3
    have h3' : dec y = n := h3
    refine next_open ho g h1 (wpAny_bind (wpAny_seqItems h0 rfl ?_))
    dsimp only
    simp only [Int.toNat_natCast]
    rw [List.getElem?_toArray, List.getElem?_map, h2]
    dsimp only [Option.map]
    refine wpAny_bind (m := setNextDrawn a k ep) (wpAny_bind (wpAny_setState_of ho rfl g.fits ?_))
    dsimp only
    rw [if_neg (by simp), ← Array.getElem?_toList, hy]
    refine wpAny_pure (wpAny_bind (setField_it h1 (by simp) fun h' a1 sb => ?_))
    rw [ey, h3']
    refine wpAny_pure ⟨_, rfl, wpAny_pure (hq h' tk sb ⟨m1, m2, lv' _ _ sb a1, es, ep, t, (sb.2 a hai).trans ho, he, g, hb, .inr (.inr ⟨b, p, i + 1, ks, m3, m4, (sb.2 p m4).trans h0, ?_, z, h4⟩)⟩)⟩
    rw [a1]; rfl
theorem stop_new {Q : PySem.Fin → Shared → Prop} (hh : A.handled = none) (hq : ∀ h' e, (∀ b o, s.heap.get? b = some o → h'.get? b = some o) → Shared.TypeIs { s with heap := h' } (.ref e) "StopIteration" → E (.ref e) { s with heap := h' }) :
    wpAny (model prog w) A (do raiseNew (← newExc (.type "StopIteration") []) : Sem PySem.Fin) Q E s := by
  refine wpAny_bind ?_
  simp only [newExc, newTuple]
  refine wpAny_bind (wpAny_newObj_type ?_ (by size_fits))
  refine wpAny_bind (m := firstArgMember _ _) (wpAny_of_eq (a := Value.none) (by first | rfl | (simp only [firstArgMember]; rfl)) ?_)
  refine wpAny_newObj_type ?_ (by size_fits)
  simp only [raiseNew]
  refine wpAny_bind (wpAny_handled ?_)
  rw [hh]
  refine wpAny_bind (wpAny_pure (wpAny_throw ?_))
  exact hq _ _ (fun b o e => Heap.get?_push_of_some _ (Heap.get?_push_of_some _ e)) ⟨_, Heap.get?_push_size _ rfl, rfl⟩
theorem next_end {Q : Option Value → Shared → Prop} (hh : A.handled = none) (x : SetIt w s.heap tmp it a []) (hq : ∀ h', Heap.ExtBut it s.heap h' → Q none { s with heap := h' }) : wpAny (model prog w) A (pyNext (.ref it)) Q E s := by
  have hT := x.typeIs
  obtain ⟨m1, m2, lv, es, ep, t, ho, he, g, hb, c⟩ := x
  have hst : ∀ (e : Addr) (h' : Heap), Heap.ExtBut it s.heap h' → Shared.TypeIs { s with heap := h' } (.ref e) "StopIteration" →
      wpAny (model prog w) A (do if ← isInstance (.ref e) (.type "StopIteration") then pure none else throw (.ref e)) Q E { s with heap := h' } :=
    fun e h' ex hT' => wpAny_bind (wpAny_isInstance (T := "StopIteration") (b := true) hT' isSubtype_stop (wpAny_pure (hq h' ex)))
  unfold pyNext
  refine wpAny_bind (wpAny_attempt (wpAny_callSpecial?_slot (name := Str.ofString "__next__") hT si_slot (wpAny_call_entry si_slot hT si_entry ?_ (si_args _))))
  rcases c with ⟨b, sl, i, h1, e⟩ | ⟨b, pl, sl, i, h1, e⟩ | ⟨b, p, i, ks, m3, m4, h0, h1, z, e⟩
  · refine next_open ho g h1 (wpAny_bind (setNext_text ho g b ?_))
    simp only [Int.toNat_natCast]
    rw [← Array.getElem?_toList, nil_drop e]
    refine wpAny_bind (setField_it h1 (by simp) fun h' a1 sb => stop_new (s := { s with heap := h' }) hh fun h'' x k hT' => hst x h'' (fun c oc n e => k c oc ((sb.2 c n).trans e)) hT')
  · refine next_open ho g h1 (wpAny_bind (setNext_row ho g b pl ?_))
    simp only [Int.toNat_natCast]
    rw [← Array.getElem?_toList, nil_drop e]
    refine wpAny_bind (setField_it h1 (by simp) fun h' a1 sb => stop_new (s := { s with heap := h' }) hh fun h'' x k hT' => hst x h'' (fun c oc n e => k c oc ((sb.2 c n).trans e)) hT')
  · refine next_open ho g h1 (wpAny_bind (wpAny_seqItems h0 rfl ?_))
    dsimp only
    simp only [Int.toNat_natCast]
    rw [List.getElem?_toArray, List.getElem?_map, nil_drop e]
    dsimp only [Option.map]
    refine wpAny_bind (setField_it h1 (by simp) fun h' a1 sb => wpAny_bind (setField_it (s := { s with heap := h' }) a1 (by simp) fun h2 a2 sb' => stop_new (s := { s with heap := h2 }) hh fun h'' x k hT' => hst x h'' (fun c oc n e => k c oc (((sb.trans sb').2 c n).trans e)) hT'))
end
end Dp
end
section
open PySem PySem.W PySem.Calls PyProof.Rows
namespace Dp
section
variable {prog : Program} {w : World} {A : Around} {E : Value → Shared → Prop} {s : Shared} {h h' : Heap} {a it : Addr} {o : Obj} {ns rest : List Int} {tmp : List Addr}
theorem ints_snoc {vs : List Value} {ns : List Int} (x : IntsAre vs ns) (n : Int) (t : Tok) : IntsAre (vs ++ [.int n t]) (ns ++ [n]) := by
  induction x with
  | nil => exact .cons n t .nil
  | cons m u _ ih => exact .cons m u ih
theorem seq_push {vs : Array Value} {k : Nat} {v : Value} {Sa : Addr} {Q : Unit → Shared → Prop} (hS : s.heap.get? Sa = some (listO vs k)) (hz : vs.size < sizeLine)
    (hq : ∀ h' k', Heap.SameBut Sa s.heap h' → h'.get? Sa = some (listO (vs.push v) k') → Q () { s with heap := h' }) : wpAny (model prog w) A (updateSeq Sa (·.push v)) Q E s := by
  refine wpAny_updateSeq hS rfl (hq _ _ (Heap.SameBut.update ..) (Heap.get?_update_self _ hS rfl)) (by omega) (by rw [Array.size_push]; omega)
theorem extend_set {Sa : Addr} {R : Result → Shared → Prop} (hh : A.handled = none) (h1 : Sa ∉ tmp) (h2 : Sa ≠ a) (hit : it ∈ tmp) : ∀ (rest : List Int) (s : Shared) (vs : List Value) (ms : List Int) (k : Nat), SetIt w s.heap tmp it a rest → s.heap.get? Sa = some (listO vs.toArray k) → IntsAre vs ms → vs.length + rest.length < sizeLine →
      (∀ h' vs' k', (∀ b ob, b ≠ Sa → b ≠ it → s.heap.get? b = some ob → h'.get? b = some ob) → h'.get? Sa = some (listO vs'.toArray k') → IntsAre vs' (ms ++ rest) → R (.ok (.ret .none)) { s with heap := h' }) →
      codeAny (model prog w) A (.builtin "list.extend.loop" ⟨[.ref Sa, .ref it, .none], []⟩) R s := by
  have hne : Sa ≠ it := fun z => h1 (z ▸ hit)
  intro rest
  induction rest with
  | nil =>
    intro s vs ms k x hS hi hz hR
    refine codeAny_builtin F.entry_extend_loop ?_
    rw [Around.under_plainId F.plain_extend_loop _]
    show wpAny _ A.in1 (pyNext (.ref it) >>= _) _ _ s
    exact wpAny_bind (next_end hh x fun h' ex => wpAny_pure (hR h' vs k (fun b ob _ hb e => ex b ob hb e) (ex Sa _ hne hS) (by rw [List.append_nil]; exact hi)))
  | cons n rest ih =>
    intro s vs ms k x hS hi hz hR
    refine codeAny_builtin F.entry_extend_loop ?_
    rw [Around.under_plainId F.plain_extend_loop _]
    show wpAny _ A.in1 (pyNext (.ref it) >>= _) _ _ s
    refine wpAny_bind (next_item x fun h' tk sb x' => ?_)
    show wpAny _ A.in1 (updateSeq Sa (·.push (.int n tk)) >>= _) _ _ _
    refine wpAny_bind (seq_push (s := { s with heap := h' }) ((sb.2 Sa hne).trans hS) (by simp at hz ⊢; omega) fun h'' k' sb' hS' => ?_)
    rw [List.push_toArray] at hS'
    refine wpAny_pure ⟨plainId_quiet F.plain_extend_loop _, ih _ (vs ++ [.int n tk]) (ms ++ [n]) k' ?_ hS' (ints_snoc hi n tk) (by simp at hz ⊢; omega) fun h₃ vs' k'' kk hS'' hi' => hR h₃ vs' k'' (fun b ob hb1 hb2 e => kk b ob hb1 hb2 ((two_step sb sb' hb2 hb1).trans e)) hS'' (by rw [List.append_assoc] at hi'; exact hi')⟩
    refine x'.at fun b ob hb e => (sb'.2 b fun z => ?_).trans e
    rcases hb with rfl | hb
    · exact h2 z.symm
    · exact h1 (z ▸ hb)
theorem call_list_set {Q : Value → Shared → Prop} (hh : A.handled = none) (ho : s.heap.get? a = some o) (x : IntSet w o ns) (hb : ns.length < scanBound)
    (hq : ∀ s' D vs k ms, Eff No s s' → s.heap.get? D = none → s'.heap.get? D = some (listO vs.toArray k) → IntsAre vs ms → ms.Perm ns → Q (.ref D) s') :
    wpAny (model prog w) A (call (.type "list") [.ref a]) Q E s := by
  have hne : a ≠ s.heap.objs.size := Nat.ne_of_lt (Heap.lt_size ho)
  refine callType_codes (Q₁ := fun obj s₁ => obj = .ref s.heap.objs.size ∧ s₁ = { s with heap := s.heap.push { cls := .type "list", data := .seq #[] } }) F.called_list (F.typeCall_list_1 _) F.entry_list_init (code_list_new _ ⟨rfl, rfl⟩) fun obj s₁ h₁ => ?_
  obtain ⟨rfl, rfl⟩ := h₁
  have hS : (s.heap.push (listO #[] 0)).get? s.heap.objs.size = some (listO #[] 0) := Heap.get?_push_size _ rfl
  have hnone : s.heap.get? s.heap.objs.size = none := by
    cases q : s.heap.get? s.heap.objs.size with
    | none => rfl
    | some ob => exact absurd (Heap.lt_size q) (Nat.lt_irrefl _)
  refine ⟨⟨_, hS, rfl⟩, F.args_list_init_2 _ _, ?_⟩
  show wpAny _ A.in1.in1 (do let old ← Builtin.List.listItems (.ref s.heap.objs.size); Builtin.List.listUpdate (.ref s.heap.objs.size) (fun _ => #[]); letGo old.toList.reverse; Builtin.List.listExtendWith (.ref s.heap.objs.size) (.ref a) .none) _ _ _
  refine wpAny_bind ?_
  unfold Builtin.List.listItems
  refine wpAny_bind (wpAny_seqItems hS rfl (wpAny_pure ?_))
  show wpAny _ A.in1.in1 (updateSeq s.heap.objs.size (fun _ => #[]) >>= fun _ => letGo (#[] : Array Value).toList.reverse >>= fun _ => Builtin.List.listExtendWith (.ref s.heap.objs.size) (.ref a) .none) _ _ _
  refine wpAny_bind (wpAny_updateSeq hS rfl ?_)
  have hS₂ : ((s.heap.push (listO #[] 0)).update s.heap.objs.size (Obj.mapSeq fun _ => #[])).get? s.heap.objs.size = some (listO #[] 0) := Heap.get?_update_self _ hS rfl
  have sb₂ := Heap.SameBut.update (s.heap.push (listO #[] 0)) s.heap.objs.size (Obj.mapSeq fun _ => #[])
  have keep : ∀ b ob, s.heap.get? b = some ob → ((s.heap.push (listO #[] 0)).update s.heap.objs.size (Obj.mapSeq fun _ => #[])).get? b = some ob := fun b ob e =>
    (sb₂.2 b (fun z => by subst z; rw [hnone] at e; cases e)).trans (Heap.get?_push_of_some _ e)
  generalize (s.heap.push (listO #[] 0)).update s.heap.objs.size (Obj.mapSeq fun _ => #[]) = h₂ at hS₂ keep
  refine wpAny_bind (wpAny_letGo ?_)
  have ho₂ := keep a o ho
  have hT : Shared.TypeIs { s with heap := h₂ } (.ref a) "set" := x.typeIs (s := { s with heap := h₂ }) ho₂
  unfold Builtin.List.listExtendWith
  refine wpAny_bind (wpAny_typeOf hT ?_)
  have e1 : Builtin.List.listSameRef (.ref s.heap.objs.size) (.ref a) = false := by simp [Builtin.List.listSameRef, Ne.symm hne]
  have e2 : (Value.type "set" == Value.type "list") = false := by decide
  have e3 : (Value.type "set" == Value.type "tuple") = false := by decide
  simp only [e1, e2, e3, Bool.or_false, Bool.false_eq_true, if_false]
  refine wpAny_bind (iter_set (s := { s with heap := h₂ }) ho₂ x hb fun s₃ tmp it ms eff hfr hit hp => wpAny_bind (wpAny_holding ?_))
  have hT₃ : s₃.TypeIs (.ref a) "set" := x.typeIs (eff.all ho₂)
  unfold Builtin.List.listLengthHint
  refine wpAny_bind (wpAny_specialOf hT₃ F.slot_set_len.lookup ?_)
  refine wpAny_bind (m := isInstance _ _) (wpAny_isInstance hT₃ sub_set_self ?_)
  refine wpAny_bind (wpAny_typeOf hT₃ ?_)
  refine wpAny_pure ?_
  show wpAny _ A.in1.in1 (rule "list.extend.makes-room" >>= fun _ => Builtin.List.listTouch (.ref s.heap.objs.size) >>= fun _ => again (.builtin "list.extend.loop" ⟨[.ref s.heap.objs.size, .ref it, .none], []⟩)) _ _ _
  refine wpAny_bind (wpAny_rule (wpAny_bind ?_))
  show wpAny _ A.in1.in1 (updateSeq s.heap.objs.size (·.push .none) >>= fun _ => updateSeq s.heap.objs.size (·.pop)) _ _ _
  refine wpAny_bind (wpAny_updateSeq (eff.all hS₂) rfl ?_)
  have hS₄ := Heap.get?_update_self (Obj.mapSeq (·.push Value.none)) (eff.all hS₂) rfl
  have sb₄ := Heap.SameBut.update s₃.heap s.heap.objs.size (Obj.mapSeq (·.push Value.none))
  refine wpAny_updateSeq (s := { s₃ with heap := _ }) hS₄ rfl ?_
  have hS₅ := Heap.get?_update_self (Obj.mapSeq (·.pop)) hS₄ rfl
  have sb₅ := sb₄.trans (Heap.SameBut.update _ s.heap.objs.size (Obj.mapSeq (·.pop)))
  generalize ((s₃.heap.update s.heap.objs.size (Obj.mapSeq (·.push Value.none))).update s.heap.objs.size (Obj.mapSeq (·.pop))) = h₅ at hS₅ sb₅
  have n1 : s.heap.objs.size ∉ tmp := fun z => by have := hfr _ z; rw [hS₂] at this; cases this
  refine wpAny_pure ⟨plainId_quiet F.plain_extend_loop _, extend_set (A := A.in1) hh n1 (Ne.symm hne) hit.1 ms { s₃ with heap := h₅ } [] [] _ (hit.at fun b ob hb e => (sb₅.2 b fun z => ?_).trans e) hS₅ .nil (by have := hp.length_eq; have := fits_of_scanBound hb; simp; unfold scanBound at hb; rw [sizeLine_eq]; omega) fun h₆ vs' k' kk hS₆ hi => ⟨rfl, hq _ _ vs' k' _ ⟨fun b ob _ e => ?_, eff.gens, eff.os⟩ hnone hS₆ hi (by simpa using hp)⟩⟩
  · rcases hb with rfl | hb
    · exact hne z
    · exact n1 (z ▸ hb)
  · have hbn : b ≠ s.heap.objs.size := fun z => by subst z; rw [hnone] at e; cases e
    refine kk b ob hbn (fun z => ?_) ((sb₅.2 b hbn).trans (eff.all (keep b ob e)))
    subst z
    have := hfr _ hit.1
    rw [keep _ ob e] at this; cases this
end
end Dp
end
section
open PySem PySem.W PySem.Calls PyProof.Rows
namespace Dp
section
variable {prog : Program} {w : World} {A : Around} {E : Value → Shared → Prop} {s : Shared} {h h' : Heap} {a x y : Addr}
theorem tup_lt {i l i' l' : Int} {t t' u u' : Tok} {Q : Value → Shared → Prop} (hx : s.heap.get? x = some (tupO #[.int i t, .int l t'])) (hy : s.heap.get? y = some (tupO #[.int i' u, .int l' u'])) (hu : A.units + 10 < cLine)
    (hq : ∀ b, Q (.bool b) s) : wpAny (model prog w) A (richCompare .Lt (.ref x) (.ref y)) Q E s := by
  have hTx : s.TypeIs (.ref x) "tuple" := ⟨_, hx, rfl⟩
  have hTy : s.TypeIs (.ref y) "tuple" := ⟨_, hy, rfl⟩
  refine wpAny_richCompare_same_room hTx hTy F.slot_tuple_lt (wpAny_call_entry F.slot_tuple_lt hTx F.entry_tuple_lt ?_ (F.args_tuple_lt_2 _ _)) (by omega)
  unfold Builtin.«tuple.__lt__»
  show wpAny _ _ (slotArgs "__lt__" 1 ⟨[.ref x, .ref y], []⟩ >>= _) _ _ _
  unfold slotArgs
  refine wpAny_bind (wpAny_pure ?_)
  dsimp only
  refine wpAny_bind (wpAny_isInstance hTy isSubtype_tuple_tuple ?_)
  rw [if_neg (by decide)]
  refine wpAny_bind (m := Builtin.Tuple.tupleItemsOf _) (wpAny_bind (wpAny_seqItems hx rfl (wpAny_pure ?_)))
  refine wpAny_bind (m := Builtin.Tuple.tupleItemsOf _) (wpAny_bind (wpAny_seqItems hy rfl (wpAny_pure ?_)))
  have hlt : ∀ (p q : Int) (c d : Tok) {R : Value → Shared → Prop}, (∀ b, R (.bool b) s) → wpAny (model prog w) A.in1 (richCompare .Lt (.int p c) (.int q d)) R E s := fun p q c d R hR => wpAny_lt_int (hR _)
  show wpAny _ _ (forIn [((Value.int i t), (Value.int i' u)), ((Value.int l t'), (Value.int l' u'))] (none, ()) _ >>= _) _ _ _
  refine wpAny_bind ?_
  rw [List.forIn_cons]
  refine wpAny_bind (wpAny_bind (wpAny_eqBool_int ?_))
  by_cases h1 : i = i'
  · rw [show (i == i') = true by simp [h1]]
    rw [if_neg (by decide)]
    refine wpAny_pure ?_
    dsimp only
    rw [List.forIn_cons]
    refine wpAny_bind (wpAny_bind (wpAny_eqBool_int ?_))
    by_cases h2 : l = l'
    · rw [show (l == l') = true by simp [h2], if_neg (by decide)]
      refine wpAny_pure ?_
      dsimp only
      rw [List.forIn_nil]
      refine wpAny_pure ?_
      exact wpAny_pure ⟨_, rfl, by simp [Builtin.Tuple.tupleCompareSizes], hq _⟩
    · rw [show (l == l') = false by simp [h2], if_pos (by decide)]
      dsimp only
      refine wpAny_bind (wpAny_rule (wpAny_bind (hlt _ _ _ _ fun b => wpAny_bind (wpAny_pure (wpAny_pure (wpAny_pure (wpAny_pure ⟨_, rfl, by simp, hq b⟩)))))))
  · rw [show (i == i') = false by simp [h1], if_pos (by decide)]
    dsimp only
    refine wpAny_bind (wpAny_rule (wpAny_bind (hlt _ _ _ _ fun b => wpAny_bind (wpAny_pure (wpAny_pure (wpAny_pure (wpAny_pure ⟨_, rfl, by simp, hq b⟩)))))))
end
end Dp
end
section
open PySem PySem.W PySem.Calls PyProof.Rows
namespace Dp
section
variable {prog : Program} {w : World} {A : Around} {E : Value → Shared → Prop} {s : Shared} {h h' : Heap} {a x y : Addr}
theorem hq_entry_sift : entryFor table "_heapq.heapify.sift" = some Builtin.«_heapq.heapify.sift» := entryFor_of_tree (by kernel_rfl)
theorem hq_entry_push : entryFor table "_heapq.heappush" = some Builtin.«_heapq.heappush» := entryFor_of_tree (by kernel_rfl)
theorem hq_entry_pop : entryFor table "_heapq.heappop" = some Builtin.«_heapq.heappop» := entryFor_of_tree (by kernel_rfl)
theorem hq_plain_sift : plainId "_heapq.heapify.sift" = true := by decide +kernel
theorem hq_plain_push : plainId "_heapq.heappush" = true := by decide +kernel
theorem hq_plain_pop : plainId "_heapq.heappop" = true := by decide +kernel
theorem hq_kind_push : builtinKind "_heapq.heappush" = none := by kernel_rfl
theorem hq_kind_pop : builtinKind "_heapq.heappop" = none := by kernel_rfl
def PT (h : Heap) (a : Addr) (v : Value) : Prop := ∃ b i l t t', v = .ref b ∧ b ≠ a ∧ h.get? b = some (tupO #[.int i t, .int l t'])
theorem PT.at {v : Value} (x : PT h a v) (sb : Heap.SameBut a h h') : PT h' a v := by
  obtain ⟨b, i, l, t, t', e, n, g⟩ := x
  exact ⟨b, i, l, t, t', e, n, (sb.2 b n).trans g⟩
def hItems (a : Addr) : Sem (Array Value) := do
  let some xs ← seqItems? (.ref a) | unsupported "internal:_heapq"
  return xs
def hAt (xs : Array Value) (i : Nat) : Sem Value := match xs[i]? with | some v => pure v | none => unsupported "internal:_heapq.index"
def hSwap (a : Addr) (i j : Nat) : Sem Unit := do
  let xs ← hItems a
  let x ← hAt xs i
  let y ← hAt xs j
  updateSeq a fun xs => (xs.setIfInBounds i y).setIfInBounds j x
def hLess (a : Addr) (size : Nat) (x y : Value) : Sem Bool := do
  let less ← holding [x, y] (do truthOfDropped (← richCompare .Lt x y))
  if (← hItems a).size != size then rule "_heapq.size-changed"; raiseError "RuntimeError" "list changed size during iteration"
  return less
theorem items_any {xs : Array Value} {k : Nat} {Q : Array Value → Shared → Prop} (hS : s.heap.get? a = some (listO xs k)) (hq : Q xs s) : wpAny (model prog w) A (hItems a) Q E s := wpAny_bind (wpAny_seqItems hS rfl (wpAny_pure hq))
theorem at_any {xs : Array Value} {i : Nat} {v : Value} {Q : Value → Shared → Prop} (e : xs[i]? = some v) (hq : Q v s) : wpAny (model prog w) A (hAt xs i) Q E s := by unfold hAt; rw [e]; exact wpAny_pure hq
theorem less_any {xs : Array Value} {k : Nat} {u v : Value} {Q : Bool → Shared → Prop} (hS : s.heap.get? a = some (listO xs k)) (pu : PT s.heap a u) (pv : PT s.heap a v) (hu : A.units + 10 < cLine) (hq : ∀ b, Q b s) : wpAny (model prog w) A (hLess a xs.size u v) Q E s := by
  obtain ⟨b, i, l, t, t', rfl, _, g⟩ := pu
  obtain ⟨b', i', l', c, c', rfl, _, g'⟩ := pv
  unfold hLess
  refine wpAny_bind (wpAny_holding (wpAny_bind (tup_lt g g' hu fun r => ?_)))
  show wpAny _ _ (truthy (.bool r)) _ _ _
  refine wpAny_truthy_bool (wpAny_bind (items_any hS ?_))
  rw [if_neg (by simp)]
  exact wpAny_pure (hq r)
theorem swap_perm {xs : Array Value} {i j : Nat} {u v : Value} (hi : xs[i]? = some u) (hj : xs[j]? = some v) : ((xs.setIfInBounds i v).setIfInBounds j u).toList.Perm xs.toList := by
  have hi' : i < xs.size := by rcases Nat.lt_or_ge i xs.size with q | q; exact q; rw [Array.getElem?_eq_none q] at hi; cases hi
  have hj' : j < xs.size := by rcases Nat.lt_or_ge j xs.size with q | q; exact q; rw [Array.getElem?_eq_none q] at hj; cases hj
  have eu : xs[i] = u := by rw [Array.getElem?_eq_getElem hi'] at hi; exact Option.some.inj hi
  have ev : xs[j] = v := by rw [Array.getElem?_eq_getElem hj'] at hj; exact Option.some.inj hj
  have : (xs.setIfInBounds i v).setIfInBounds j u = xs.swap i j hi' hj' := by
    rw [← eu, ← ev]
    unfold Array.swap Array.setIfInBounds
    simp [hi', hj']
  rw [this]
  exact (Array.swap_perm hi' hj').toList
theorem swap_any {xs : Array Value} {k i j : Nat} {Q : Unit → Shared → Prop} (hS : s.heap.get? a = some (listO xs k)) (hz : xs.size ≤ sizeLine) (hi : i < xs.size) (hj : j < xs.size)
    (hq : ∀ h' xs', Heap.SameBut a s.heap h' → h'.get? a = some (listO xs' k) → xs'.toList.Perm xs.toList → Q () { s with heap := h' }) : wpAny (model prog w) A (hSwap a i j) Q E s := by
  obtain ⟨u, eu⟩ : ∃ u, xs[i]? = some u := ⟨_, Array.getElem?_eq_getElem hi⟩
  obtain ⟨v, ev⟩ : ∃ v, xs[j]? = some v := ⟨_, Array.getElem?_eq_getElem hj⟩
  unfold hSwap
  refine wpAny_bind (items_any hS (wpAny_bind (at_any eu (wpAny_bind (at_any ev ?_)))))
  have e := Heap.get?_update_self (Obj.mapSeq fun xs => (xs.setIfInBounds i v).setIfInBounds j u) hS rfl
  refine wpAny_updateSeq hS rfl (hq _ _ (Heap.SameBut.update ..) (by rw [e]; simp [Obj.mapSeq]) (swap_perm eu ev)) hz (by simp; omega)
abbrev siftC (a : Addr) (down : Bool) (pos : Nat) (result : Value) : Code := .builtin "_heapq.heapify.sift" ⟨[.ref a, .bool false, .bool down, rawInt pos, rawInt 0, result, rawInt (-1)], []⟩
def siftM (down : Bool) (n pos : Nat) : Nat := if down then 2 * n + 2 - pos else pos
theorem sift_step {down : Bool} {pos : Nat} {result : Value} {xs : Array Value} {k : Nat} {Q : PySem.Fin → Shared → Prop} (hS : s.heap.get? a = some (listO xs k)) (hz : xs.size ≤ sizeLine) (hall : ∀ v ∈ xs.toList, PT s.heap a v) (hp : pos < xs.size) (hu : A.units + 20 < cLine)
    (hdone : Q (.done (.ret result)) s)
    (hgo : ∀ h' xs' down' pos', Heap.SameBut a s.heap h' → h'.get? a = some (listO xs' k) → xs'.toList.Perm xs.toList → pos' < xs'.size → siftM down' xs.size pos' < siftM down xs.size pos → Q (.again (siftC a down' pos' result)) { s with heap := h' }) :
    wpAny (model prog w) A (Builtin.«_heapq.heapify.sift» ⟨[.ref a, .bool false, .bool down, rawInt pos, rawInt 0, result, rawInt (-1)], []⟩) Q E s := by
  have get : ∀ i, i < xs.size → ∃ v, xs[i]? = some v ∧ PT s.heap a v := fun i hi => ⟨_, Array.getElem?_eq_getElem hi, hall _ (by rw [Array.mem_toList_iff]; exact Array.getElem_mem hi)⟩
  have sz : ∀ xs' : Array Value, xs'.toList.Perm xs.toList → xs'.size = xs.size := fun xs' p => by have := p.length_eq; simpa using this
  unfold Builtin.«_heapq.heapify.sift»
  show wpAny _ _ (hItems a >>= _) _ _ _
  refine wpAny_bind (items_any hS ?_)
  cases down with
  | true =>
    rw [if_pos rfl]
    by_cases h1 : pos < xs.size / 2
    · have h1' : (pos : Int).toNat < xs.size / 2 := h1
      rw [if_pos h1']
      have fin : ∀ child, child = 2 * pos + 1 ∨ (child = 2 * pos + 2 ∧ 2 * pos + 2 < xs.size) → wpAny (model prog w) A (do hSwap a child pos; again (siftC a true child result)) Q E s := by
        intro child hc
        refine wpAny_bind (swap_any hS hz (by omega) hp fun h' xs' sb hS' p => wpAny_pure (hgo h' xs' true child sb hS' p (by rw [sz _ p]; omega) ?_))
        unfold siftM; simp; omega
      show wpAny _ _ (if (2 * pos + 1) + 1 < xs.size then _ else _) _ _ _
      by_cases h2 : 2 * pos + 1 + 1 < xs.size
      · rw [if_pos h2]
        obtain ⟨u, eu, pu⟩ := get (2 * pos + 1) (by omega)
        obtain ⟨v, ev, pv⟩ := get (2 * pos + 1 + 1) h2
        refine wpAny_bind (m := hAt _ _) (at_any eu (wpAny_bind (m := hAt _ _) (at_any ev ?_)))
        rw [if_neg Bool.false_ne_true]
        refine wpAny_bind (m := hLess a xs.size u v) (less_any hS pu pv (by omega) fun b => ?_)
        cases b with
        | true => exact fin (2 * pos + 1) (.inl rfl)
        | false => exact fin (2 * pos + 1 + 1) (.inr ⟨rfl, h2⟩)
      · rw [if_neg h2]
        exact fin (2 * pos + 1) (.inl rfl)
    · have h1' : ¬ ((pos : Int).toNat < xs.size / 2) := h1
      rw [if_neg h1']
      exact wpAny_pure (hgo s.heap xs false pos (Heap.SameBut.refl ..) hS .rfl hp (by unfold siftM; simp; omega))
  | false =>
    rw [if_neg Bool.false_ne_true]
    by_cases h1 : pos > 0
    · have h1' : (pos : Int).toNat > (0 : Int).toNat := h1
      rw [if_pos h1']
      obtain ⟨u, eu, pu⟩ := get pos hp
      obtain ⟨v, ev, pv⟩ := get ((pos - 1) / 2) (by omega)
      refine wpAny_bind (m := hAt _ _) (at_any eu (wpAny_bind (m := hAt _ _) (at_any ev ?_)))
      rw [if_neg Bool.false_ne_true]
      refine wpAny_bind (m := hLess a xs.size u v) (less_any hS pu pv (by omega) fun b => ?_)
      cases b with
      | true =>
        refine wpAny_bind (m := hSwap a ((pos - 1) / 2) pos) (swap_any hS hz (by omega) hp fun h' xs' sb hS' p => wpAny_pure (hgo h' xs' false ((pos - 1) / 2) sb hS' p (by rw [sz _ p]; omega) ?_))
        unfold siftM; simp; omega
      | false => exact wpAny_pure hdone
    · have h1' : ¬ ((pos : Int).toNat > (0 : Int).toNat) := h1
      rw [if_neg h1']
      exact wpAny_pure hdone
theorem sift_all {result : Value} {k : Nat} {R : Result → Shared → Prop} (hu : A.units + 30 < cLine) : ∀ (n : Nat) (down : Bool) (pos : Nat) (s : Shared) (xs : Array Value), siftM down xs.size pos = n → s.heap.get? a = some (listO xs k) → xs.size ≤ sizeLine → (∀ v ∈ xs.toList, PT s.heap a v) → pos < xs.size →
    (∀ h' xs', Heap.SameBut a s.heap h' → h'.get? a = some (listO xs' k) → xs'.toList.Perm xs.toList → R (.ok (.ret result)) { s with heap := h' }) → codeAny (model prog w) A (siftC a down pos result) R s := by
  intro n
  induction n using Nat.strongRecOn with
  | ind n ih =>
    intro down pos s xs hm hS hz hall hp hR
    refine codeAny_builtin hq_entry_sift ?_
    rw [Around.under_plainId hq_plain_sift _]
    refine sift_step hS hz hall hp (by show A.units + 1 + 20 < cLine; omega) (hR s.heap xs (Heap.SameBut.refl ..) hS .rfl) fun h' xs' d' p' sb hS' pm hp' hlt => ?_
    have e : xs'.size = xs.size := by have := pm.length_eq; simpa using this
    exact ⟨plainId_quiet hq_plain_sift _, ih _ (hm ▸ (by rw [e]; exact hlt)) d' p' _ xs' rfl hS' (by omega) (fun v hv => (hall v (pm.mem_iff.mp hv)).at sb) hp' fun h'' xs'' sb' hS'' pm' => hR h'' xs'' (sb.trans sb') hS'' (pm'.trans pm)⟩
end
end Dp
end
section
open PySem PySem.W PySem.Calls PyProof.Rows
namespace Dp
theorem hq_owner : Manifest.owners.lookup (String.ofList ['q', 'p', 'a', 'e', 'h', '_'].reverse) = some Manifest.sig__heapq := by kernel_rfl
theorem hq_args_push (a b : Value) : argsOk "_heapq.heappush" ⟨[a, b], []⟩ := by
  unfold argsOk; rw [signature?_of (id := "_heapq.heappush") (n := ['h', 's', 'u', 'p', 'p', 'a', 'e', 'h']) (o := ['q', 'p', 'a', 'e', 'h', '_']) (by kernel_rfl) hq_owner]; kernel_rfl
theorem hq_args_pop (a : Value) : argsOk "_heapq.heappop" ⟨[a], []⟩ := by
  unfold argsOk; rw [signature?_of (id := "_heapq.heappop") (n := ['p', 'o', 'p', 'p', 'a', 'e', 'h']) (o := ['q', 'p', 'a', 'e', 'h', '_']) (by kernel_rfl) hq_owner]; kernel_rfl
section
variable {prog : Program} {w : World} {A : Around} {E : Value → Shared → Prop} {s : Shared} {h h' : Heap} {a b : Addr}
def wantF (prog : Program) (w : World) (A : Around) (Q : Value → Shared → Prop) (E : Value → Shared → Prop) (fin : PySem.Fin) (s' : Shared) : Prop :=
  match fin with
  | .done (.ret v) => Q v s'
  | .done _ => False
  | .again c' => c'.quiet = true ∧ codeAny (model prog w) A c' (fun r s' => match r with | .ok (.ret v) => Q v s' | .ok _ => False | .error e => E e s') s'
theorem call_plain_fn {id : String} {bt : Builtin} {args : List Value} {Q : Value → Shared → Prop} (hk : builtinKind id = none) (hp : plainId id = true) (hb : entryFor table id = some bt) (ha : argsOk id ⟨args, []⟩)
    (hc' : wpAny (model prog w) A.in1 (bt ⟨args, []⟩) (wantF prog w A Q E) E s) : wpAny (model prog w) A (call (.builtin id) args) Q E s := by
  have hc := wpAny_mono hc' (Q' := fun fin s' => match fin with
      | .done f => (match (Except.ok f : Result) with | .ok (.ret v) => Q v s' | .ok _ => False | .error e => E e s')
      | .again c' => c'.quiet = true ∧ codeAny (model prog w) A c' (fun r s' => match r with | .ok (.ret v) => Q v s' | .ok _ => False | .error e => E e s') s')
    (fun fin s' h' => by
      cases fin with
      | done f => cases f <;> first | exact h' | exact h'.elim
      | again c => exact h') fun _ _ h' => h'
  refine wpAny_call (codeAny_call_builtin hp hb ?_)
  simp only [checkBuiltinCall, hk]
  cases hsig : Manifest.signature? id with
  | none => exact wpAny_pure hc
  | some sig =>
    simp only [argsOk, hsig] at ha
    show wpAny _ A.in1 (Bind.checkArgs id sig ⟨args, []⟩) _ _ s
    rw [ha]
    exact wpAny_pure hc
theorem heap_push {xs : Array Value} {k : Nat} {Q : Value → Shared → Prop} (hS : s.heap.get? a = some (listO xs k)) (hz : xs.size < sizeLine) (hall : ∀ v ∈ xs.toList, PT s.heap a v) (hb : PT s.heap a (.ref b)) (hu : A.units + 40 < cLine)
    (hq : ∀ h' xs' k', Heap.SameBut a s.heap h' → h'.get? a = some (listO xs' k') → xs'.toList.Perm (xs.toList ++ [.ref b]) → Q .none { s with heap := h' }) :
    wpAny (model prog w) A (call (.builtin "_heapq.heappush") [.ref a, .ref b]) Q E s := by
  refine call_plain_fn hq_kind_push hq_plain_push hq_entry_push (hq_args_push _ _) ?_
  unfold Builtin.«_heapq.heappush»
  have hT : s.TypeIs (.ref a) "list" := ⟨_, hS, rfl⟩
  refine wpAny_bind ?_
  refine wpAny_bind (m := noKeywords _ _) (wpAny_pure (wpAny_bind (m := checkCount _ _ _ _) (wpAny_pure ?_)))
  refine wpAny_bind ?_
  show wpAny _ _ (isInstance (.ref a) (.type "list") >>= _) _ _ _
  refine wpAny_bind (wpAny_isInstance hT sub_list_self ?_)
  refine wpAny_pure (wpAny_pure ?_)
  refine wpAny_bind (wpAny_updateSeq hS rfl ?_)
  have e := Heap.get?_update_self (Obj.mapSeq (·.push (.ref b))) hS rfl
  have sb := Heap.SameBut.update s.heap a (Obj.mapSeq (·.push (.ref b)))
  have e' : ((s.heap.update a (Obj.mapSeq (·.push (.ref b)))).get? a) = some (listO (xs.push (.ref b)) (k + 1)) := by rw [e]; simp [Obj.mapSeq]
  generalize s.heap.update a (Obj.mapSeq (·.push (.ref b))) = h₁ at e' sb
  show wpAny _ _ (hItems a >>= _) _ _ _
  refine wpAny_bind (items_any (s := { s with heap := h₁ }) e' ?_)
  refine wpAny_pure ⟨plainId_quiet hq_plain_sift _, ?_⟩
  have hpos : (((xs.push (.ref b)).size - 1 : Nat) : Int) = (xs.size : Int) := by simp
  show codeAny _ _ (siftC a false ((xs.push (.ref b)).size - 1) .none) _ _
  refine sift_all (by omega) _ false _ _ (xs.push (.ref b)) rfl e' (by rw [Array.size_push]; omega) (fun v hv => ?_) (by rw [Array.size_push]; omega) fun h' xs' sb' hS' pm => hq h' xs' _ (sb.trans sb') hS' (by rw [Array.toList_push] at pm; exact pm)
  rw [Array.toList_push] at hv
  rcases List.mem_append.mp hv with q | q
  · exact (hall v q).at sb
  · rw [List.mem_singleton] at q; subst q; exact hb.at sb
theorem heap_pop {xs : Array Value} {k : Nat} {v₀ : Value} {Q : Value → Shared → Prop} (hS : s.heap.get? a = some (listO xs k)) (hz : xs.size < sizeLine) (hall : ∀ v ∈ xs.toList, PT s.heap a v) (hu : A.units + 40 < cLine) (h0 : xs[0]? = some v₀)
    (hq : ∀ h' xs' k', Heap.SameBut a s.heap h' → h'.get? a = some (listO xs' k') → (v₀ :: xs'.toList).Perm xs.toList → Q v₀ { s with heap := h' }) :
    wpAny (model prog w) A (call (.builtin "_heapq.heappop") [.ref a]) Q E s := by
  refine call_plain_fn hq_kind_pop hq_plain_pop hq_entry_pop (hq_args_pop _) ?_
  unfold Builtin.«_heapq.heappop»
  have hT : s.TypeIs (.ref a) "list" := ⟨_, hS, rfl⟩
  have hpos : 0 < xs.size := by rcases Nat.lt_or_ge 0 xs.size with q | q; exact q; rw [Array.getElem?_eq_none q] at h0; cases h0
  refine wpAny_bind ?_
  refine wpAny_bind ?_
  show wpAny _ _ (oneArg "_heapq.heappop" ⟨[.ref a], []⟩ >>= _) _ _ _
  refine wpAny_bind ?_
  refine wpAny_pure (a := Value.ref a) ?_
  refine wpAny_pure (a := Value.ref a) ?_
  refine wpAny_bind ?_
  show wpAny _ _ (isInstance (.ref a) (.type "list") >>= _) _ _ _
  refine wpAny_bind (wpAny_isInstance hT sub_list_self ?_)
  refine wpAny_pure (wpAny_pure ?_)
  dsimp only
  show wpAny _ _ (hItems a >>= _) _ _ _
  refine wpAny_bind (items_any hS ?_)
  obtain ⟨last, hlast⟩ : ∃ last, xs.back? = some last := ⟨xs[xs.size - 1], by rw [Array.back?_eq_getElem?, Array.getElem?_eq_getElem]⟩
  rw [hlast]
  have elast : xs[xs.size - 1]? = some last := by rw [← Array.back?_eq_getElem?]; exact hlast
  dsimp only
  have e := Heap.get?_update_self (Obj.mapSeq (·.pop)) hS rfl
  have sb := Heap.SameBut.update s.heap a (Obj.mapSeq (·.pop))
  have e' : ((s.heap.update a (Obj.mapSeq (·.pop))).get? a) = some (listO xs.pop (k + 1)) := by rw [e]; simp [Obj.mapSeq]; omega
  refine wpAny_bind (wpAny_updateSeq hS rfl ?_ (by omega) (by rw [Array.size_pop]; omega))
  generalize s.heap.update a (Obj.mapSeq (·.pop)) = h₁ at e' sb
  have hl : xs.toList = xs.pop.toList ++ [last] := by
    have h1 : xs.toList ≠ [] := by intro q; rw [Array.toList_eq_nil_iff] at q; subst q; simp at hpos
    have h2 : xs.toList.getLast h1 = last := by
      rw [List.getLast_eq_getElem]
      rw [Array.getElem?_eq_getElem (by omega)] at elast
      simpa using Option.some.inj elast
    rw [Array.toList_pop, ← h2, List.dropLast_concat_getLast]
  by_cases h1 : xs.size = 1
  · rw [if_pos (by simp [h1])]
    have : last = v₀ := by rw [h1] at elast; rw [elast] at h0; exact Option.some.inj h0
    subst this
    have hnil : xs.pop.toList = [] := List.eq_nil_of_length_eq_zero (by simp [h1])
    exact wpAny_pure (hq _ _ _ sb e' (by rw [hl, hnil]; exact .rfl))
  · rw [if_neg (by simp [h1])]
    refine wpAny_bind (m := hAt xs 0) (at_any h0 ?_)
    have e2 := Heap.get?_update_self (Obj.mapSeq (·.setIfInBounds 0 last)) e' rfl
    have sb2 := Heap.SameBut.update h₁ a (Obj.mapSeq (·.setIfInBounds 0 last))
    have e2' : ((h₁.update a (Obj.mapSeq (·.setIfInBounds 0 last))).get? a) = some (listO (xs.pop.setIfInBounds 0 last) (k + 1)) := by rw [e2]; simp [Obj.mapSeq]
    refine wpAny_bind (wpAny_updateSeq (s := { s with heap := h₁ }) e' rfl ?_ (by rw [Array.size_pop]; omega) (by simp; omega))
    generalize h₁.update a (Obj.mapSeq (·.setIfInBounds 0 last)) = h₂ at e2' sb2
    have hp2 : (v₀ :: (xs.pop.setIfInBounds 0 last).toList).Perm xs.toList := by
      rw [Array.toList_setIfInBounds, hl]
      have h3 : xs.pop.toList ≠ [] := by intro q; have := congrArg List.length q; simp at this; omega
      obtain ⟨y, r, hy⟩ := List.exists_cons_of_ne_nil h3
      have : y = v₀ := by
        have : xs.toList[0]? = some v₀ := by rw [Array.getElem?_toList]; exact h0
        rw [hl, hy] at this
        simpa using this
      subst this
      rw [hy, List.set_cons_zero, List.cons_append]
      exact List.Perm.cons _ (List.perm_append_singleton last r).symm
    refine wpAny_pure ⟨plainId_quiet hq_plain_sift _, ?_⟩
    show codeAny _ _ (siftC a true 0 v₀) _ _
    refine sift_all (by omega) _ true _ _ (xs.pop.setIfInBounds 0 last) rfl e2' (by simp; omega) (fun v hv => ((hall v (hp2.mem_iff.mp (List.mem_cons_of_mem _ hv))).at sb).at sb2) (by simp; omega) fun h' xs' sb' hS' pm => hq h' xs' _ ((sb.trans sb2).trans sb') hS' ((pm.cons _).trans hp2)
end
end Dp
end
section
open PySem PySem.W PySem.Calls PyProof.Rows
namespace Dp
theorem si_slot2 : Slot "set_iterator" "__iter__" "set_iterator.__iter__" :=
  .of (owner := "set_iterator") (n := "__iter__") (by rw [typeLookup_type, builtinLookup_eq_fast]; kernel_rfl) (by decide +kernel) (by decide +kernel) (by decide +kernel)
    (by first | exact .inl (by decide +kernel) | exact .inr (by decide +kernel)) (by rw [isSubtype_type]; kernel_rfl)
theorem si_entry2 : entryFor table "set_iterator.__iter__" = some Builtin.«dict_keyiterator.__iter__» := entryFor_alias (id' := "dict_keyiterator.__iter__") (by kernel_rfl) rfl (by decide +kernel) (by kernel_rfl)
theorem si_args2 (a : Value) : argsOk "set_iterator.__iter__" ⟨[a], []⟩ := by unfold argsOk; kernel_rfl
theorem self_iter {prog : Program} {w : World} {A : Around} {E : Value → Shared → Prop} {s : Shared} {Q : Value → Shared → Prop} {tmp : List Addr} {it a : Addr} {r : List Int} (x : SetIt w s.heap tmp it a r) (q : Q (.ref it) s) : wpAny (model prog w) A (pyIter (.ref it)) Q E s := by
  refine wpAny_pyIter_slot x.typeIs si_slot2 (wpAny_call_entry si_slot2 x.typeIs si_entry2 ?_ (si_args2 _))
  show wpAny _ _ (ret (.ref it)) _ _ s
  exact wpAny_pure ⟨_, rfl, "set_iterator", _, x.typeIs, si_slot.lookup, q⟩
structure Iter (prog : Program) (w : World) {α : Type} (V : α → Value → Prop) (tmp dep : List Addr) (it : Addr) (T : List α → Heap → Prop) : Prop where
  mem : it ∈ tmp
  live : ∀ {r h}, T r h → ∀ b ∈ tmp, ∃ o, h.get? b = some o
  stab : ∀ {r h h'}, T r h → (∀ b o, b ∈ tmp ∨ b ∈ dep → h.get? b = some o → h'.get? b = some o) → T r h'
  item : ∀ {A : Around} {E : Value → Shared → Prop} {s : Shared} {x : α} {r : List α} {Q : Option Value → Shared → Prop}, T (x :: r) s.heap → (∀ h' v tk, Heap.SameBut it s.heap h' → V x v → T r h' → Q (some v) { s with heap := h', toks := tk }) → wpAny (model prog w) A (pyNext (.ref it)) Q E s
  self : ∀ {A : Around} {E : Value → Shared → Prop} {s : Shared} {r : List α} {Q : Value → Shared → Prop}, T r s.heap → Q (.ref it) s → wpAny (model prog w) A (pyIter (.ref it)) Q E s
  fin : ∀ {A : Around} {E : Value → Shared → Prop} {s : Shared} {Q : Option Value → Shared → Prop}, A.handled = none → T [] s.heap → (∀ h', Heap.ExtBut it s.heap h' → Q none { s with heap := h' }) → wpAny (model prog w) A (pyNext (.ref it)) Q E s
def IsInt (n : Int) (v : Value) : Prop := ∃ tk, v = .int n tk
section
variable {prog : Program} {w : World} {K : Frag} {B : Heap} {A : Around} {E : Value → Shared → Prop} {s s' : Shared} {L a : Addr} {m : Str → Option Value} {cn : Str} {cs : Scope} {cd : Value} {h h' : Heap} {α : Type} {V : α → Value → Prop}
theorem f2_drop {β : Type} {R : α → β → Prop} {l : List α} {m : List β} (x : F2 R l m) (i : Nat) : F2 R (l.drop i) (m.drop i) := by
  induction x generalizing i with
  | nil => simp; exact .nil
  | cons r x ih => cases i with
    | zero => exact .cons r x
    | succ i => simpa using ih i
theorem Iter.list {it l : Addr} {vs : List Value} {xs : List α} (hne : it ≠ l) (hv : F2 V xs vs) : Iter prog w V [it] [l] it (fun r h => ∃ i, r = xs.drop i ∧ h.IsListIter it l i ∧ h.IsList l vs.toArray) where
  mem := by simp
  live := by
    rintro r h ⟨i, _, ⟨o, ho, _⟩, _⟩ b hb
    rw [List.mem_singleton] at hb; subst hb; exact ⟨o, ho⟩
  stab := by
    rintro r h h' ⟨i, e, a, b⟩ k
    exact ⟨i, e, a.at fun o q => k it o (.inl (by simp)) q, b.at fun o q => k l o (.inr (by simp)) q⟩
  item := by
    rintro A E s x r Q ⟨i, e, a, b⟩ hq
    obtain ⟨e1, e2⟩ := cons_drop e.symm
    obtain ⟨v, hv1, hv2⟩ := hv.get' e1
    refine wpAny_pyNext_list_item a b (by rw [List.getElem?_toArray]; exact hv1) fun h' a' sb => hq h' v s.toks sb hv2 ⟨i + 1, e2.symm, a', b.at fun o q => (sb.2 l (Ne.symm hne)).trans q⟩
  self := by
    rintro A E s r Q ⟨i, e, a, b⟩ q
    exact wpAny_pyIter_listiter a q
  fin := by
    rintro A E s Q hh ⟨i, e, a, b⟩ hq
    refine wpAny_pyNext_list_end hh a b ?_ fun h' ex => hq h' ex
    have : xs.length ≤ i := List.drop_eq_nil_iff.mp e.symm
    rw [List.getElem?_toArray, List.getElem?_eq_none (by rw [← hv.length]; exact this)]
theorem iter_list {l : Addr} {vs : List Value} {xs : List α} {Q : Value → Shared → Prop} (hl : s.heap.IsList l vs.toArray) (hv : F2 V xs vs)
    (hq : ∀ s' it T, Eff No s s' → s.heap.get? it = none → Iter prog w V [it] [l] it T → T xs s'.heap → Q (.ref it) s') : wpAny (model prog w) A (pyIter (.ref l)) Q E s := by
  have hne : s.heap.objs.size ≠ l := fun z => by obtain ⟨o, ho, _⟩ := hl; exact Nat.lt_irrefl _ (z ▸ Heap.lt_size ho)
  have hnone : s.heap.get? s.heap.objs.size = none := by
    cases q : s.heap.get? s.heap.objs.size with
    | none => rfl
    | some ob => exact absurd (Heap.lt_size q) (Nat.lt_irrefl _)
  refine wpAny_pyIter_list hl (hq _ s.heap.objs.size _ ⟨fun b o _ e => Heap.get?_push_of_some _ e, rfl, rfl⟩ hnone (Iter.list hne hv) ⟨0, rfl, ⟨_, Heap.get?_push_size _ rfl, rfl, rfl⟩, hl.push _⟩)
theorem ints_f2 {vs : List Value} {ns : List Int} (x : IntsAre vs ns) : F2 IsInt ns vs := by
  induction x with
  | nil => exact .nil
  | cons n t _ ih => exact .cons ⟨t, rfl⟩ ih
theorem Iter.set {it : Addr} {tmp : List Addr} (hit : it ∈ tmp) : Iter prog w IsInt tmp [a] it (fun r h => SetIt w h tmp it a r) where
  mem := hit
  live := by
    exact fun x => x.2.2.1
  stab := fun x k => x.at fun b o hb e => k b o (hb.elim (fun z => .inr (by rw [z]; simp)) .inl) e
  self := fun x q => self_iter x q
  item := fun x hq => next_item x fun h' tk sb x' => hq h' _ _ sb ⟨tk, rfl⟩ x'
  fin := fun hh x hq => next_end hh x hq
theorem iter_setI {o : Obj} {ns : List Int} {Q : Value → Shared → Prop} (ho : s.heap.get? a = some o) (x : IntSet w o ns) (hb : ns.length < scanBound)
    (hq : ∀ s' tmp it T ms, Eff No s s' → (∀ b ∈ tmp, s.heap.get? b = none) → Iter prog w IsInt tmp [a] it T → T ms s'.heap → ms.Perm ns → Q (.ref it) s') : wpAny (model prog w) A (pyIter (.ref a)) Q E s :=
  iter_set ho x hb fun s' tmp it ms e f t p => hq s' tmp it _ ms e f (Iter.set t.1) t p
def upFrom (a : Int) : Nat → List Int
  | 0 => []
  | n + 1 => a :: upFrom (a + 1) n
theorem Iter.range {it : Addr} : Iter prog w IsInt [it] [] it (fun r h => ∃ x, IsRangeIter h it x r.length 1 ∧ r = upFrom x r.length) where
  mem := by simp
  live := by rintro r h ⟨x, e, _⟩ b hb; rw [List.mem_singleton] at hb; subst hb; exact ⟨_, e⟩
  stab := by rintro r h h' ⟨x, e, f⟩ k; exact ⟨x, k it _ (.inl (by simp)) e, f⟩
  item := by
    rintro A E s x r Q ⟨y, e, f⟩ hq
    rw [List.length_cons] at e f
    injection f with f1 f2
    subst f1
    refine wpAny_pyNext_range_item e (by omega) fun h' e' sb => hq h' _ _ sb ⟨_, rfl⟩ ⟨x + 1, ?_, f2⟩
    have : ((r.length + 1 : Nat) : Int) - 1 = r.length := by omega
    rw [← this]; exact e'
  self := by
    rintro A E s r Q ⟨y, e, f⟩ q
    exact wpAny_pyIter_rangeiter e q
  fin := by
    rintro A E s Q hh ⟨y, e, f⟩ hq
    exact wpAny_pyNext_range_end hh e (by simp) hq
theorem upFrom_length (a : Int) (n : Nat) : (upFrom a n).length = n := by
  induction n generalizing a with
  | zero => rfl
  | succ n ih => simp [upFrom, ih]
theorem iter_range {r : Addr} {lo hi : Int} {t u v : Tok} {Q : Value → Shared → Prop} (hr : IsRange s.heap r lo hi 1 t u v) (hsmall : Builtin.Range.small lo hi 1 = true) (hn : Builtin.Range.rangeSize lo hi 1 = ((hi - lo).toNat : Int))
    (hq : ∀ s' it T, Eff No s s' → s.heap.get? it = none → Iter prog w IsInt [it] [] it T → T (upFrom lo (hi - lo).toNat) s'.heap → Q (.ref it) s') : wpAny (model prog w) A (pyIter (.ref r)) Q E s := by
  have hnone : s.heap.get? s.heap.objs.size = none := by
    cases q : s.heap.get? s.heap.objs.size with
    | none => rfl
    | some ob => exact absurd (Heap.lt_size q) (Nat.lt_irrefl _)
  refine wpAny_pyIter_range hr hsmall (hq _ s.heap.objs.size _ ⟨fun b o _ e => Heap.get?_push_of_some _ e, rfl, rfl⟩ hnone Iter.range ⟨lo, ?_, by rw [upFrom_length]⟩)
  rw [upFrom_length, hn]
  exact Heap.get?_push_size _ rfl
theorem loop_iter {R : Result → Shared → Prop} {x : Str} {px : Pos} {body : List Stmt} {it : Addr} {tmp dep : List Addr} {T : List α → Heap → Prop} (hh : A.handled = none) (IT : Iter prog w V tmp dep it T) (hLt : L ∉ tmp) (hLd : L ∉ dep) (hBt : ∀ b ∈ tmp, B.get? b = none)
    (I : List α → (Str → Option Value) → Shared → Prop) {r : List α} {m : Str → Option Value} {s : Shared} (hI : I r m s) (F : Fr B L s.heap m) (t : T r s.heap)
    (step : ∀ y r m s s₁ v, I (y :: r) m s → V y v → Fr B L s₁.heap (fun z => if z = x then some v else m z) → Eff (fun b => b = it ∨ b = L) s s₁ → (∀ b ∈ tmp, ∃ o, s₁.heap.get? b = some o) →
      wpAny (model prog w) A (execs body (envOf cn cs L a cd)) (fun f s₂ => match f with
        | .next | .cont => ∃ m' P, Fr B L s₂.heap m' ∧ I r m' s₂ ∧ Eff P s₁ s₂ ∧ ∀ b, b ∈ tmp ∨ b ∈ dep → ¬ P b
        | .brk => R (.ok .next) s₂
        | .ret v => R (.ok (.ret v)) s₂) (fun _ _ => False) s₁)
    (done : ∀ m s s₁, I [] m s → Fr B L s₁.heap m → Eff (fun b => b = it) s s₁ → R (.ok .next) s₁)
    (hk : cs.kind = .function := by rfl) (hx : (envOf cn cs L a cd).kindOf x = some .local := by rfl) : codeAny (model prog w) A (.forLoop (.Name x px) (.ref it) body [] (envOf cn cs L a cd)) R s := by
  refine codeAny_forLoop (fun n s => ∃ r m, r.length = n ∧ I r m s ∧ Fr B L s.heap m ∧ T r s.heap) (fun n s ⟨r, m, hn, hI, F, t⟩ => ?_) r.length ⟨r, m, rfl, hI, F, t⟩
  have hLi : it ≠ L := fun z => hLt (z ▸ IT.mem)
  have nb : ∀ b o, B.get? b = some o → b ≠ it := fun b o e z => by subst z; rw [hBt _ IT.mem] at e; cases e
  cases r with
  | nil =>
    refine IT.fin hh t fun h' ex => ?_
    refine wpAny_execs_nil ?_
    exact done m s _ hI ⟨F.ns.at' fun o e => ex L o (Ne.symm hLi) e, fun b o e => ex b o (nb b o e) (F.keep b o e), F.above⟩ ⟨fun b o n e => ex b o n e, rfl, rfl⟩
  | cons y r =>
    refine IT.item t fun h' v tk sb hv t' => ?_
    have F' : Fr B L h' m := ⟨F.ns.at' fun o e => (sb.2 L (Ne.symm hLi)).trans e, fun b o e => (sb.2 b (nb b o e)).trans (F.keep b o e), F.above⟩
    refine wpAny_assign_Name (wpAny_storeName_local (s := { s with heap := h', toks := tk }) hx F'.ns (fun h'' hn'' sb' => ?_) (by show (cs.kind == .class || (cs.kind == .module && L != mainGlobals)) = false; rw [hk]; rfl))
    refine wpAny_mono (noexc (step y r m s _ v hI hv (F'.set hn'' sb') ⟨fun b o n e => ?_, rfl, rfl⟩ (IT.live (IT.stab t' fun b o hb q => ?_)))) (fun f s₂ q => ?_) fun _ _ x => x
    · exact (sb'.2 b fun z => n (.inr z)).trans ((sb.2 b fun z => n (.inl z)).trans e)
    · exact (sb'.2 b fun (z : b = L) => hb.elim (fun c => hLt (z ▸ c)) fun c => hLd (z ▸ c)).trans q
    · have fin : (∃ m' P, Fr B L s₂.heap m' ∧ I r m' s₂ ∧ Eff P { s with heap := h'', toks := tk + 1 } s₂ ∧ ∀ b, b ∈ tmp ∨ b ∈ dep → ¬ P b) → ∃ k, k < n ∧ ∃ r m, r.length = k ∧ I r m s₂ ∧ Fr B L s₂.heap m ∧ T r s₂.heap := by
        rintro ⟨m', P, F₂, hI₂, e, hP⟩
        refine ⟨r.length, by rw [← hn]; simp, r, m', rfl, hI₂, F₂, IT.stab (IT.stab t' fun b o hb q => ?_) fun b o hb q => e.keep b o (hP b hb) q⟩
        exact (sb'.2 b fun (z : b = L) => hb.elim (fun c => hLt (z ▸ c)) fun c => hLd (z ▸ c)).trans q
      cases f with
      | next => exact fin q
      | cont => exact fin q
      | brk => exact q
      | ret v => exact q
end
end Dp
end
section
open PySem PySem.W PySem.Calls PyProof.Rows
namespace Dp
structure Rm (A : Around) (d : Nat) : Prop where
  hh : A.handled = none
  dep : A.depth + d < recursionLimit
  un : A.units + 100 * d < cLine
theorem Rm.deeper {A : Around} {d : Nat} {env : Env} (x : Rm A (d + 1)) : Rm (A.deeper env) d := ⟨x.hh, by have := x.dep; show A.depth + 1 + d < _; omega, by have := x.un; show A.units + 3 + 100 * d < _; omega⟩
theorem Rm.in1 {A : Around} {d : Nat} (x : Rm A (d + 1)) : Rm A.in1 d := ⟨x.hh, by have := x.dep; show A.depth + d < _; omega, by have := x.un; show A.units + 1 + 100 * d < _; omega⟩
theorem Rm.less {A : Around} {d e : Nat} (x : Rm A d) (h : e ≤ d) : Rm A e := ⟨x.hh, by have := x.dep; omega, by have := x.un; omega⟩
theorem Rm.room {A : Around} {d : Nat} (x : Rm A d) : A.depth < recursionLimit := by have := x.dep; omega
section
variable {prog : Program} {w : World} {K : Frag} {B : Heap} {A : Around} {E : Value → Shared → Prop} {s s' : Shared} {L a : Addr} {m : Str → Option Value} {adr : Role → Addr} {D : Addr → Prop} {S : SV} {cn : Str} {cs : Scope} {cd : Value} {h h' : Heap}
theorem KMap.at {a : Addr} {o : Obj} {ks : List Int} {V : Int → Value → Prop} (x : KMap prog w o ks V) (ho : h.get? a = some o) {k : Int} (hk : k ∈ ks) : ∃ kvs v, h.DictOf (intKind prog w) a kvs ∧ valueAt kvs k = some v ∧ V k v := by
  obtain ⟨kvs, d, rfl, e⟩ := x
  refine ⟨kvs, ?_⟩
  have : ∃ kv, kvs.find? (fun kv => decide (kv.1 = k)) = some kv := by
    obtain ⟨kv, a, b⟩ := List.mem_map.mp hk
    cases q : kvs.find? (fun kv => decide (kv.1 = k)) with
    | some kv => exact ⟨kv, rfl⟩
    | none => have := List.find?_eq_none.mp q kv a; simp [b] at this
  obtain ⟨kv, q⟩ := this
  have e1 : kv.1 = k := by have := List.find?_some q; simpa using this
  refine ⟨kv.2, d h a ho, by unfold valueAt; rw [q]; rfl, ?_⟩
  rw [← e1]; exact e kv (List.mem_of_find?_eq_some q)
theorem itemMap {value slice : PySem.Expr} {a : Addr} {o : Obj} {ks : List Int} {V : Int → Value → Prop} {k : Int} {u : Tok} {Q : Value → Shared → Prop} (ho : s.heap.get? a = some o) (x : KMap prog w o ks V) (hk : k ∈ ks)
    (hq : ∀ v, V k v → Q v { s with toks := s.toks + 1 }) (hs : subscripted slice false (.ref a) (.int k u) = operate [.ref a, .int k u] (getItem (.ref a) (.int k u)) := by with_unfolding_all rfl) :
    wpAny (model prog w) A (subscriptTail value slice (.ref a) (.int k u)) Q E s := by
  obtain ⟨kvs, v, d, e, hv⟩ := x.at ho hk
  exact tail_any d.typeIs slot_dict_getitem.lookup (wpAny_getItem_of (intKind_is _ _ _ _) d.mapOf e (hq v hv)) hs
theorem itemList {value slice : PySem.Expr} {l : Addr} {vs : List Value} {k : Nat} {u : Tok} {v : Value} {Q : Value → Shared → Prop} (hl : s.heap.IsList l vs.toArray) (hx : vs[k]? = some v) (hz : vs.length ≤ sizeLine) (h : Q v s)
    (hs : subscripted slice false (.ref l) (.int k u) = operate [.ref l, .int k u] (getItem (.ref l) (.int k u)) := by with_unfolding_all rfl) :
    wpAny (model prog w) A (subscriptTail value slice (.ref l) (.int k u)) Q E s := by
  have hk : k < vs.length := by rcases Nat.lt_or_ge k vs.length with q | q; exact q; rw [List.getElem?_eq_none q] at hx; cases hx
  rw [sizeLine_eq] at hz
  exact tail_any hl.typeIs slot_list_getitem.lookup (wpAny_getItem_list hl (by omega) (by omega) (by rw [Int.toNat_natCast, List.getElem?_toArray]; exact hx) h) hs
theorem IntList.isList {a : Addr} {o : Obj} {ns : List Int} (x : IntList o ns) (ho : h.get? a = some o) : ∃ vs, h.IsList a vs.toArray ∧ IntsAre vs ns := by
  obtain ⟨vs, k, rfl, hi⟩ := x; exact ⟨vs, ⟨_, ho, rfl, k, rfl⟩, hi⟩
theorem listO_is {a : Addr} {xs : Array Value} {k : Nat} (ho : h.get? a = some (listO xs k)) : h.IsList a xs := ⟨_, ho, rfl, k, rfl⟩
theorem Rep.eff {P : Addr → Prop} (R : Rep prog w B D adr S s.heap) (e : Eff P s s') (n : ∀ b, P b → ¬ D b) : Rep prog w B D adr S s'.heap := R.keepD fun b o hb q => e.keep b o (fun z => n b z hb) q
theorem call_is_sentinel {l c : Int} {t t' : Tok} {Rr : Result → Shared → Prop} (G : Bas w K B) (kf : KF K) (o : On B s.heap) (R : Rep prog w B D adr S s.heap) (rm : Rm A 1) (hph : 1 ≤ S.ph) (hl : IsLit S.n l) (hz : (S.sent l).length < scanBound)
    (hq : ∀ s', Eff No s s' → Rr (.ok (.ret (.bool (decide (c ∈ S.sent l))))) s') :
    codeAny (model prog w) A (.call (.ref 115) ⟨[.ref (adr .slf), .int l t, .int c t'], []⟩) Rr s := by
  obtain ⟨pm, ho⟩ := kf.fIS.fn.at_
  refine call_fn (binds := [("self", .ref (adr .slf)), ("lit", .int l t), ("cls", .int c t')]) G o ho kf.fIS.fn.code rm.room (BindsTo.of_eq rfl) (locs rfl) (fun h₁ L F hL hk => ?_)
  have R₁ := R.keep hk
  refine wpAny_execs_cons (wpAny_Return_some (wpAny_Compare1 (ld F rfl (Subscript_ (attr_name G F kf.S rfl (R₁.h_sdct hph) (by decide) rfl (ld F rfl ?_))))))
  obtain ⟨od, h1, hm⟩ := R₁.o_sdct hph
  obtain ⟨os, h2, h3⟩ := R₁.o_sent hph hl
  refine itemMap h1 hm (mem_litsOf.mpr hl) (fun v hv => by subst hv; exact in_set h2 h3 hz (hq _ (Eff.toks fun b o _ e => hk b o e)))
theorem Eff.new {own P : Addr → Prop} {s s' s'' : Shared} (x : Eff own s s') (y : Eff P s' s'') (g : ∀ b, P b → s.heap.get? b = none) : Eff own s s'' := x.trans y fun b hb => .inr (g b hb)
theorem On.none {B h : Heap} (o : On B h) {b : Addr} (e : h.get? b = none) : B.get? b = none := by
  cases q : B.get? b with
  | none => rfl
  | some ob => rw [o.keep b ob q] at e; cases e
theorem Eff.none {s s' : Shared} (x : Eff No s s') {b : Addr} (e : s'.heap.get? b = none) : s.heap.get? b = none := by
  cases q : s.heap.get? b with
  | none => rfl
  | some ob => rw [x.all q] at e; cases e
theorem Rep.clause (R : Rep prog w B D adr S h) {i : Nat} {c : List Int} (hph : 4 ≤ S.ph) (hc : S.cls[i]? = some c) : ∃ (as : List Addr) (k : Nat) (l : Addr) (vs : List Value), h.get? (adr .cls) = some (listO (as.map Value.ref).toArray k) ∧ as[i]? = some l ∧ as.length = S.cls.length ∧ D l ∧ ¬ ownOf adr S l ∧ h.IsList l vs.toArray ∧ IntsAre vs c := by
  obtain ⟨o, h1, as, k, rfl, f⟩ := R.ok .cls hph
  obtain ⟨l, hl, oc, fz, il⟩ := f.get hc
  obtain ⟨vs, a, b⟩ := il.isList fz.2.2
  exact ⟨as, k, l, vs, h1, hl, f.length, fz.1, fz.2.1, a, b⟩
theorem call_clause_sat {i : Nat} {t : Tok} {c : List Int} {Rr : Result → Shared → Prop} (G : Bas w K B) (kf : KF K) (o : On B s.heap) (R : Rep prog w B D adr S s.heap) (rm : Rm A 1) (hph : 4 ≤ S.ph) (hc : S.cls[i]? = some c) (hz : S.vs.length < scanBound) (hcz : S.cls.length ≤ sizeLine)
    (hq : ∀ s', Eff No s s' → Rr (.ok (.ret (.bool (c.any fun l => decide (l ∈ S.vs))))) s') :
    codeAny (model prog w) A (.call (.ref 108) ⟨[.ref (adr .slf), .int i t], []⟩) Rr s := by
  obtain ⟨pm, ho⟩ := kf.fCS.fn.at_
  refine call_fn (binds := [("self", .ref (adr .slf)), ("cls", .int i t)]) G o ho kf.fCS.fn.code rm.room (BindsTo.of_eq rfl) (locs rfl) (fun h₁ L F hL hk => ?_)
  have R₁ := R.keep hk
  obtain ⟨as, k, l, vs, h1, h2, h3, h4, h5, h6, h7⟩ := R₁.clause hph hc
  refine wpAny_execs_cons (wpAny_For (Subscript_ (attr_name G F kf.S rfl (R₁.h_cls hph) (by decide) rfl (ld F rfl (itemList (vs := as.map Value.ref) (listO_is h1) (by rw [List.getElem?_map, h2]; rfl) (by rw [List.length_map, h3]; exact hcz) ?_)))))
  refine iter_list h6 (ints_f2 h7) fun s₂ it T e₂ hit IT hT => ?_
  have e₀ : Eff No s s₂ := (Eff.toks fun b o _ e => hk b o e).same e₂
  have hitL : it ≠ L := fun z => by subst z; obtain ⟨_, _, _, q, _⟩ := F.ns; rw [q] at hit; cases hit
  have hlL : l ≠ L := fun z => R.new hL (z ▸ h4)
  have hits : s.heap.get? it = none := (Eff.toks fun b o _ e => hk b o e : Eff No s { s with heap := h₁, toks := 0 }).none hit
  refine loop_iter (prog := prog) (w := w) (B := B) rm.deeper.hh IT (by simpa using Ne.symm hitL) (by simpa using Ne.symm hlL) (fun b hb => by rw [List.mem_singleton] at hb; subst hb; exact o.none hits)
    (fun r m s' => Eff No s s' ∧ m "self" = some (.ref (adr .slf)) ∧ (c.any fun l => decide (l ∈ S.vs)) = r.any fun l => decide (l ∈ S.vs)) ⟨e₀, rfl, rfl⟩ (Fr_no F e₂) hT ?_ ?_
  · rintro y r m s₃ s₄ v ⟨e₃, hm, hany⟩ ⟨tk, rfl⟩ F₄ e₄ _
    have e₅ : Eff No s s₄ := e₃.new e₄ (fun b hb => by rcases hb with rfl | rfl; exact hits; exact hL)
    have R₄ := R.keep fun b o e => e₅.all e
    obtain ⟨os, g1, g2⟩ := R₄.o_vset
    have hm' : (fun z => if z = Str.ofString "lit" then some (Value.int y tk) else m z) "self" = some (.ref (adr .slf)) := by rw [← hm]; exact if_neg (by decide)
    refine wpAny_execs_cons (wpAny_If (wpAny_isTrue_Compare1 (ld F₄ rfl (attr_name G F₄ kf.S hm' R₄.h_vset (by decide) rfl (in_set g1 g2 hz (wpAny_truthy_bool ?_))))))
    rw [List.any_cons] at hany
    by_cases hy : y ∈ S.vs
    · rw [if_pos (by simp [hy])]
      refine wpAny_execs_cons (wpAny_Return_some (wpAny_Constant_bool ?_))
      have := hq _ (e₅.same (Eff.toks (t := s₄.toks + 1 + 1) fun b o _ e => e))
      rw [hany, decide_eq_true hy, Bool.true_or] at this
      exact this
    · rw [if_neg (by simp [hy])]
      refine wpAny_execs_nil (wpAny_execs_nil ⟨_, No, F₄, ⟨e₅.same (Eff.toks fun b o _ e => e), hm', by rw [hany, decide_eq_false hy, Bool.false_or]⟩, Eff.toks fun b o _ e => e, fun b _ z => z⟩)
  · rintro m s₃ s₄ ⟨e₃, hm, hany⟩ F₄ e₄
    refine wpAny_execs_cons (wpAny_Return_some (wpAny_Constant_bool ?_))
    have := hq _ (e₃.new e₄ fun b hb => by subst hb; exact hits)
    rw [hany] at this
    exact this
end
end Dp
end
section
open PySem PySem.W PySem.Calls PyProof.Rows
namespace Dp
section
variable {prog : Program} {w : World} {K : Frag} {B : Heap} {A : Around} {E : Value → Shared → Prop} {s s' : Shared} {L a x C : Addr} {m : Str → Option Value} {adr : Role → Addr} {D : Addr → Prop} {S : SV} {cn : Str} {cs : Scope} {cd : Value} {h h' : Heap}
def updS (f : Str → Option Value) (n : Str) (v : Value) : Str → Option Value := fun y => if y = n then some v else f y
theorem putL_getL {n y : Str} {hsh : Int} {tk : Tok} {v : Value} : ∀ {es : List DictEntry}, (getL n es).isSome = true → (getL y es).isSome = true → getL y (putL n hsh (.str n tk) v es) = if y = n then some (some v) else getL y es := by
  intro es
  have key : ∀ es : List DictEntry, (putL n hsh (.str n tk) v es).find? (·.key.isStr y) = (if y = n then (putL n hsh (.str n tk) v es).find? (·.key.isStr y) else es.find? (·.key.isStr y)) := by
    intro es
    split
    · rfl
    · rename_i hne
      induction es with
      | nil => simp [putL, Value.isStr]; exact fun z => hne z.symm
      | cons e r ih =>
        simp only [putL]
        by_cases c : e.key.isStr n = true
        · rw [if_pos c]
          have : e.key.isStr y = false := by
            revert c; cases e.key <;> simp [Value.isStr]; rintro rfl z; exact hne z.symm
          simp [List.find?_cons, this]
        · rw [if_neg c]
          simp only [List.find?_cons]
          rw [ih]
  have hit : ∀ es : List DictEntry, ∃ e, (putL n hsh (.str n tk) v es).find? (·.key.isStr n) = some e ∧ e.val = v := by
    intro es
    induction es with
    | nil => exact ⟨⟨hsh, .str n tk, v⟩, by simp [putL, Value.isStr], rfl⟩
    | cons e r ih =>
      simp only [putL]
      by_cases c : e.key.isStr n = true
      · rw [if_pos c]; exact ⟨⟨e.hash, e.key, v⟩, by simp [List.find?_cons, c], rfl⟩
      · rw [if_neg c]; simpa [List.find?_cons, c] using ih
  have anyR : ∀ es : List DictEntry, (putL n hsh (.str n tk) v es).any (·.refKey) = es.any (·.refKey) := by
    intro es
    induction es with
    | nil => rfl
    | cons e r ih =>
      simp only [putL]
      by_cases c : e.key.isStr n = true
      · rw [if_pos c]; simp only [List.any_cons]; rfl
      · rw [if_neg c]; simp only [List.any_cons]; rw [ih]
  intro h1 h2
  by_cases e : y = n
  · subst e
    obtain ⟨e, a, b⟩ := hit es
    rw [if_pos rfl]; unfold getL; rw [a]; dsimp only; rw [b]
  · rw [if_neg e]; unfold getL; rw [key es, if_neg e, anyR]
theorem putL_length {n : Str} {hsh : Int} {k v : Value} : ∀ {es : List DictEntry}, (putL n hsh k v es).length = putN n es es.length := by
  intro es
  induction es with
  | nil => rfl
  | cons e r ih =>
    simp only [putL, putN, List.any_cons, List.length_cons] at ih ⊢
    by_cases c : e.key.isStr n = true
    · simp [c]
    · simp only [c, Bool.false_or]; rw [if_neg (by simp), List.length_cons, ih]; split <;> rfl
theorem osa_raw {at_ : List Str} {name : Str} {tk : Tok} {v : Value} {dx : Addr} {es : List DictEntry} {k : Nat} {R : Result → Shared → Prop} (X : K.In s.heap) (c : ClsAt K C at_) (I : InstAt s.heap x (instObj C dx) C (some (dictOf es k))) (hn : name ∈ at_) (hg : (getL name es).isSome = true) (hz : es.length ≤ 500)
    (hq : ∀ h' hsh, Heap.SameBut dx s.heap h' → h'.get? dx = some (dictOf (putL name hsh (.str name s.toks) v es) (putN name es k)) → R (.ok (.ret .none)) { s with heap := h', toks := s.toks + 1 }) :
    codeAny (model prog w) A (.call (.builtin "object.__setattr__") ⟨[.ref x, .str name tk, v], []⟩) R s := by
  refine osa_open X I c.over (c.taker name hn) fun b => ?_
  obtain ⟨cd, hc, hd'⟩ := any_some c.dict
  obtain ⟨hx, hcl, _, D⟩ := I
  refine wpAny_bind (wpAny_pure (wpAny_bind (wpAny_bind (wpAny_loadPart hx (wpAny_bind ((looks_clsIn X hc).here ?_))))))
  rw [hd']
  refine wpAny_pure (a := some dx) (wpAny_bind (wpAny_pure (wpAny_bind ?_)))
  unfold nsSet
  refine wpAny_bind (wpAny_bind (wpAny_askSetting (wpAny_pure (wpAny_bind (wpAny_mkText (wpAny_bind (wpAny_loadPart D ?_)))))))
  dsimp only
  have c : (!es.toArray.any (·.key.isStr name) && es.toArray.any (·.refKey)) = false := by
    rw [← Array.any_toList, ← Array.any_toList]
    unfold getL at hg
    split at hg
    · rename_i en he
      rw [List.any_eq_true.mpr ⟨en, List.mem_of_find?_eq_some he, List.find?_some he⟩]; rfl
    · split at hg
      · cases hg
      · rename_i z; rw [Bool.not_eq_true] at z; rw [z, Bool.and_false]
  rw [aRefKeyMayBeTheName_at, c]
  refine wpAny_updatePart D ?_
  have g := Heap.get?_update_self (Obj.putName name (PyData.keyHash w.params name) (.str name s.toks) v) D (by rw [putName_dict]; rfl)
  rw [putName_dict] at g
  refine wpAny_bind (wpAny_lookBehind g (pastItsLine_dict (by rw [List.size_toArray, sizeLine_eq, putL_length]; unfold putN; split <;> omega)) ?_)
  exact wpAny_pure (hq _ _ (Heap.SameBut.update _ _ _) g)
theorem setAttr_raw {at_ : List Str} {name : Str} {v : Value} {dx : Addr} {es : List DictEntry} {k : Nat} {Q : Unit → Shared → Prop} (X : K.In s.heap) (c : ClsAt K C at_) (I : InstAt s.heap x (instObj C dx) C (some (dictOf es k))) (hn : name ∈ at_) (hg : (getL name es).isSome = true) (hz : es.length ≤ 500)
    (hq : ∀ h' hsh tk, Heap.SameBut dx s.heap h' → h'.get? dx = some (dictOf (putL name hsh (.str name tk) v es) (putN name es k)) → Q () { s with heap := h', toks := s.toks + 2 }) :
    wpAny (model prog w) A (setAttr (.ref x) name v) Q E s :=
  set_plain X I c.setter (osa_raw (s := { s with toks := s.toks + 1 }) X c I hn hg hz fun h' hsh sb g => hq h' hsh _ sb g)
theorem Dic.upd {es : List DictEntry} {f : Str → Option Value} (d : Dic es f) (n : Str) (hsh : Int) (tk : Tok) (v : Value) : Dic (putL n hsh (.str n tk) v es) (updS f n v) := fun y => by
  rw [putL_getL (by rw [d]; rfl) (by rw [d]; rfl), d]; unfold updS; split <;> rfl
theorem Dic.len {es : List DictEntry} {f : Str → Option Value} (d : Dic es f) {n : Str} {v₀ : Value} (hf : f n = some v₀) (hsh : Int) (k v : Value) : (putL n hsh k v es).length = es.length := by
  rw [putL_length]; unfold putN
  have := d n
  rw [hf] at this; unfold getL at this
  split at this
  · rename_i e he; rw [if_pos (List.any_eq_true.mpr ⟨e, List.mem_of_find?_eq_some he, List.find?_some he⟩)]
  · split at this <;> cases this
theorem Rep.set {name : Str} {v : Value} {Q : Unit → Shared → Prop} (G : Bas w K B) (o : On B s.heap) (c : ClsAt K 207 sAttrs) (R : Rep prog w B D adr S s.heap) (hn : name ∈ sAttrs) (hz : S.ph ≤ 20)
    (hq : ∀ h' es k f, Heap.SameBut (adr .dct) s.heap h' → h'.get? (adr .dct) = some (dictOf es k) → (es.length ≤ 20 + S.ph + 1) → (∀ v₀, f name = some v₀ → es.length ≤ 20 + S.ph) → Dic es (updS f name v) → Att adr S f → ∀ tk, Q () { s with heap := h', toks := tk }) :
    wpAny (model prog w) A (setAttr (.ref (adr .slf)) name v) Q E s := by
  obtain ⟨es, k, f, I, h1, h2, h3, r⟩ := R.has
  refine setAttr_raw (G.in o) c I hn (by rw [h3]; rfl) (by omega) fun h' hsh tk sb g => ?_
  refine hq h' _ _ f sb g (by rw [putL_length]; unfold putN; split <;> omega) (fun v₀ hv => by rw [h3.len hv]; exact h2) (h3.upd _ _ _ _) r _
structure Out (prog : Program) (w : World) (B : Heap) (D : Addr → Prop) (adr : Role → Addr) (s : Shared) (S' : SV) (s' : Shared) : Prop where
  ex : ∃ D' adr', Rep prog w B D' adr' S' s'.heap ∧ (∀ b, D b → D' b) ∧ (∀ b, D' b → D b ∨ s.heap.get? b = none) ∧ adr' .slf = adr .slf
  eff : Eff D s s'
theorem Out.trans {S₁ S₂ : SV} {s₁ s₂ : Shared} (x : Out prog w B D adr s S₁ s₁) (y : ∀ D' adr', Rep prog w B D' adr' S₁ s₁.heap → (∀ b, D b → D' b) → (∀ b, D' b → D b ∨ s.heap.get? b = none) → adr' .slf = adr .slf → Out prog w B D' adr' s₁ S₂ s₂) : Out prog w B D adr s S₂ s₂ := by
  obtain ⟨⟨D', adr', R', h1, h2, h3⟩, e⟩ := x
  obtain ⟨⟨D'', adr'', R'', g1, g2, g3⟩, e'⟩ := y D' adr' R' h1 h2 h3
  refine ⟨⟨D'', adr'', R'', fun b hb => g1 b (h1 b hb), fun b hb => ?_, g3.trans h3⟩, e.trans e' h2⟩
  rcases g2 b hb with q | q
  · exact h2 b q
  · refine (Classical.em (D b)).elim .inl fun n => .inr ?_
    cases z : s.heap.get? b with
    | none => rfl
    | some ob => rw [e.keep b ob n z] at q; cases q
theorem Out.of (R : Rep prog w B D adr S s'.heap) (e : Eff D s s') : Out prog w B D adr s S s' := ⟨⟨D, adr, R, fun _ h => h, fun _ h => .inl h, rfl⟩, e⟩
theorem Rep.att {S' : SV} {h' : Heap} {es : List DictEntry} {k : Nat} {f' : Str → Option Value} (R : Rep prog w B D adr S h) (sb : Heap.SameBut (adr .dct) h h') (ho : h'.get? (adr .dct) = some (dictOf es k)) (hz : es.length ≤ 20 + S'.ph) (hd : Dic es f') (ha : Att adr S' f')
    (hl : ∀ r, S'.live r ↔ S.live r) (hy : S'.syms = S.syms) (hs : ∀ r' o, r' ≠ .dct → RoleOk prog w D (ownOf adr S) adr h' S r' o → RoleOk prog w D (ownOf adr S) adr h' S' r' o) : Rep prog w B D adr S' h' :=
  R.upd (r := .dct) trivial sb ho hl hy ⟨es, k, f', rfl, hz, hd, ha⟩ hs
theorem sb_eff {P : Addr → Prop} {tk : Tok} (sb : Heap.SameBut a s.heap h') (hP : P a) : Eff P s { s with heap := h', toks := tk } := ⟨fun b o n e => (sb.2 b fun z => n (z ▸ hP)).trans e, rfl, rfl⟩
theorem RoleOk.at_unsat {b : Bool} {r : Role} {o : Obj} (n : r ≠ .dct) (x : RoleOk prog w D own adr h S r o) : RoleOk prog w D own adr h { S with unsat := b } r o := by
  cases r <;> first | exact x | exact absurd rfl n
theorem set_unsat {b : Bool} {Q : Unit → Shared → Prop} (G : Bas w K B) (o : On B s.heap) (c : ClsAt K 207 sAttrs) (R : Rep prog w B D adr S s.heap) (hz : S.ph ≤ 20)
    (hq : ∀ s', Rep prog w B D adr { S with unsat := b } s'.heap → Eff (fun x => x = adr .dct) s s' → Q () s') :
    wpAny (model prog w) A (setAttr (.ref (adr .slf)) "is_unsatisfied" (.bool b)) Q E s := by
  refine R.set G o c (by decide) hz fun h' es k f sb g hl hp hd ha tk => hq _ (R.att sb g (hp _ ha.unsat) hd ?_ (fun r => Iff.rfl) rfl fun r o hr x => x.at_unsat hr) (sb_eff sb rfl)
  have ne : ∀ x : Str, x ≠ "is_unsatisfied" → updS f "is_unsatisfied" (.bool b) x = f x := fun x hx => if_neg hx
  refine ⟨(ne _ (by decide)).trans ha.vset, if_pos rfl, (ne _ (by decide)).trans ha.que, (ne _ (by decide)).trans ha.syms, fun h => (ne _ (by decide)).trans (ha.sdct h), fun h => (ne _ (by decide)).trans (ha.odct h), fun h => (ne _ (by decide)).trans (ha.vars h), fun h => (ne _ (by decide)).trans (ha.cls h), fun h => (ne _ (by decide)).trans (ha.hp h), fun h => (ne _ (by decide)).trans (ha.sdic h), fun h => (ne _ (by decide)).trans (ha.learn h), fun h => (ne _ (by decide)).trans (ha.lvs h), fun h => ?_, fun h => ?_, fun x hx => (ne x fun z => hx (by rw [z]; decide)).trans (ha.rest x hx)⟩
  · rw [ne _ (by decide)]; exact ha.n1 h
  · rw [ne _ (by decide)]; exact ha.n2 h
theorem set_num {name : Str} {i : Int} {t : Tok} {Q : Unit → Shared → Prop} (G : Bas w K B) (o : On B s.heap) (c : ClsAt K 207 sAttrs) (R : Rep prog w B D adr S s.heap) (hz : S.ph ≤ 20) (hph : 10 ≤ S.ph) (hn : name = "num_decisions" ∨ name = "num_learned_clauses")
    (hq : ∀ s', Rep prog w B D adr S s'.heap → Eff (fun x => x = adr .dct) s s' → Q () s') :
    wpAny (model prog w) A (setAttr (.ref (adr .slf)) name (.int i t)) Q E s := by
  have hin : name ∈ sAttrs := by rcases hn with rfl | rfl <;> decide
  refine R.set G o c hin hz fun h' es k f sb g hl hp hd ha tk => hq _ (R.att sb g ?_ hd ?_ (fun r => Iff.rfl) rfl fun r o hr x => x) (sb_eff sb rfl)
  · rcases hn with rfl | rfl
    · obtain ⟨_, _, e⟩ := ha.n1 (by omega); exact hp _ e
    · obtain ⟨_, _, e⟩ := ha.n2 (by omega); exact hp _ e
  have ne : ∀ x : Str, x ≠ name → updS f name (.int i t) x = f x := fun x hx => if_neg hx
  have n2 : ∀ x : Str, x ≠ "num_decisions" → x ≠ "num_learned_clauses" → x ≠ name := fun x a b => by rcases hn with rfl | rfl <;> assumption
  refine ⟨(ne _ (n2 _ (by decide) (by decide))).trans ha.vset, (ne _ (n2 _ (by decide) (by decide))).trans ha.unsat, (ne _ (n2 _ (by decide) (by decide))).trans ha.que, (ne _ (n2 _ (by decide) (by decide))).trans ha.syms, fun h => (ne _ (n2 _ (by decide) (by decide))).trans (ha.sdct h), fun h => (ne _ (n2 _ (by decide) (by decide))).trans (ha.odct h), fun h => (ne _ (n2 _ (by decide) (by decide))).trans (ha.vars h), fun h => (ne _ (n2 _ (by decide) (by decide))).trans (ha.cls h), fun h => (ne _ (n2 _ (by decide) (by decide))).trans (ha.hp h), fun h => (ne _ (n2 _ (by decide) (by decide))).trans (ha.sdic h), fun h => (ne _ (n2 _ (by decide) (by decide))).trans (ha.learn h), fun h => (ne _ (n2 _ (by decide) (by decide))).trans (ha.lvs h), fun h => ?_, fun h => ?_, fun x hx => (ne x fun z => hx (by rw [z]; exact hin)).trans (ha.rest x hx)⟩
  · rcases hn with rfl | rfl
    · exact ⟨i, t, if_pos rfl⟩
    · rw [ne _ (by decide)]; exact ha.n1 h
  · rcases hn with rfl | rfl
    · rw [ne _ (by decide)]; exact ha.n2 h
    · exact ⟨i, t, if_pos rfl⟩
end
end Dp
end
section
open PySem PySem.W PySem.Calls PyProof.Rows
namespace Dp
section
variable {prog : Program} {w : World} {K : Frag} {B : Heap} {A : Around} {E : Value → Shared → Prop} {s s' : Shared} {L a x C : Addr} {m : Str → Option Value} {adr : Role → Addr} {D : Addr → Prop} {S : SV} {cn : Str} {cs : Scope} {cd : Value} {h h' : Heap}
theorem lvs_last {S : SV} {lv : LV} {r : List LV} (e : S.lvs = r ++ [lv]) : S.lvs[r.length]? = some lv := by rw [e]; simp
theorem itemLast {value slice : PySem.Expr} {l : Addr} {r : List Value} {v : Value} {u : Tok} {Q : Value → Shared → Prop} (hl : s.heap.IsList l (r ++ [v]).toArray) (h : Q v s)
    (hs : subscripted slice false (.ref l) (.int (-1) u) = operate [.ref l, .int (-1) u] (getItem (.ref l) (.int (-1) u)) := by with_unfolding_all rfl) :
    wpAny (model prog w) A (subscriptTail value slice (.ref l) (.int (-1) u)) Q E s :=
  kde_neg (j := r.length) hl (by decide) (by decide) (by unfold seqIndex?; simp; omega) (by simp) h hs
theorem cur_level {lv : LV} {r : List LV} {n : Str} {p pos : Pos} {Q : Value → Shared → Prop} (G : Bas w K B) (kf : KF K) (F : Fr B L s.heap m) (R : Rep prog w B D adr S s.heap) (hx : m n = some (.ref (adr .slf))) (hph : 8 ≤ S.ph) (hlast : S.lvs = r ++ [lv]) (hz : S.lvs.length ≤ 100) (rm : Rm A 2)
    (hq : ∀ s', Eff No s s' → Q (.ref lv.ob) s') (hk : cs.kind = .function := by rfl) (hl : (envOf cn cs L a cd).kindOf n = some .local := by rfl) (hd : (n == ("__debug__" : Str)) = false := by decide)
    (he : eval (.Attribute (.Name n p) "_current_level" pos) (envOf cn cs L a cd) = (do
      let o ← eval (.Name n p) (envOf cn cs L a cd)
      standAt pos.atName
      let r ← holding [o] (getAttr o "_current_level" true)
      letTemporaryGo (.Name n p) o r
      pure r) := by with_unfolding_all rfl) :
    wpAny (model prog w) A (eval (.Attribute (.Name n p) "_current_level" pos) (envOf cn cs L a cd)) Q E s := by
  obtain ⟨es, k, f, I, _⟩ := R.has
  obtain ⟨rest, hr⟩ := kf.curR
  obtain ⟨pm, ho⟩ := kf.cur.at_
  refine Attribute_any_ (ld F hx (get_prop F G.K I (by have := kf.S.plain; exact this) kf.S.dict kf.curP kf.curG kf.curT hr ?_) hk hl hd) he
  refine call_fn (binds := [("self", .ref (adr .slf))]) G (s := { s with toks := s.toks + 1 }) (frOn F) ho kf.cur.code (rm.in1 (d := 1)).room (BindsTo.of_eq rfl) (locs rfl) (fun h₁ L F hL hk => ?_)
  have R₁ := R.keep hk
  obtain ⟨ol, h1, n, rfl, h2⟩ := R₁.o_lvs hph
  refine wpAny_execs_cons (wpAny_Return_some (Subscript_ (attr_name G F kf.S rfl (R₁.h_lvs hph) (by decide) rfl ?_)))
  have hls : Heap.IsList h₁ (adr .lvs) ((r.map fun lv => Value.ref lv.ob) ++ [Value.ref lv.ob]).toArray := by
    refine listO_is (k := n) ?_; rw [h1, hlast, List.map_append]; rfl
  refine UnaryOp_ (wpAny_Constant_int (P.neg_int (itemLast hls ?_)))
  exact wpAny_pure (hq _ ⟨fun b o _ e => hk b o e, rfl, rfl⟩)
theorem dct_re {S S' : SV} {own : Addr → Prop} {o : Obj} (y : RoleOk prog w D own adr h S .dct o) (e1 : S'.unsat = S.unsat := by rfl) (e2 : S'.syms = S.syms := by rfl) (e3 : S'.learn = S.learn := by rfl) (e4 : S'.ph = S.ph := by rfl) : RoleOk prog w D own adr h S' .dct o := by
  obtain ⟨es, k, f, e, hz, hd, a⟩ := y
  refine ⟨es, k, f, e, by rw [e4]; exact hz, hd, ?_⟩
  exact ⟨a.vset, by rw [e1]; exact a.unsat, a.que, by rw [e2]; exact a.syms, fun q => a.sdct (e4 ▸ q), fun q => a.odct (e4 ▸ q), fun q => a.vars (e4 ▸ q), fun q => a.cls (e4 ▸ q), fun q => a.hp (e4 ▸ q), fun q => a.sdic (e4 ▸ q), fun q => by rw [e3]; exact a.learn (e4 ▸ q), fun q => a.lvs (e4 ▸ q), fun q => a.n1 (e4 ▸ q), fun q => a.n2 (e4 ▸ q), a.rest⟩
theorem Rep.u_vset {o' : Obj} {ns : List Int} (R : Rep prog w B D adr S h) (sb : Heap.SameBut (adr .vset) h h') (ho : h'.get? (adr .vset) = some o') (x : IntSet w o' ns) : Rep prog w B D adr { S with vs := ns } h' :=
  R.upd (r := .vset) trivial sb ho (fun r => Iff.rfl) rfl x fun r o n y => by cases r <;> first | exact y | exact dct_re y | exact absurd rfl n
theorem Rep.u_que {o' : Obj} {ns : List Int} (R : Rep prog w B D adr S h) (sb : Heap.SameBut (adr .que) h h') (ho : h'.get? (adr .que) = some o') (x : IntList o' ns) : Rep prog w B D adr { S with que := ns } h' :=
  R.upd (r := .que) trivial sb ho (fun r => Iff.rfl) rfl x fun r o n y => by cases r <;> first | exact y | exact dct_re y | exact absurd rfl n
theorem Rep.u_vars {k : Nat} {bs : List Bool} (R : Rep prog w B D adr S h) (hp : 3 ≤ S.ph) (sb : Heap.SameBut (adr .vars) h h') (ho : h'.get? (adr .vars) = some (listO (bs.map Value.bool).toArray k)) : Rep prog w B D adr { S with vars := bs } h' :=
  R.upd (r := .vars) hp sb ho (fun r => Iff.rfl) rfl ⟨k, rfl⟩ fun r o n y => by cases r <;> first | exact y | exact dct_re y | exact absurd rfl n
theorem Rep.u_odct {o' : Obj} (R : Rep prog w B D adr S h) (hp : 2 ≤ S.ph) (sb : Heap.SameBut (adr .odct) h h') (ho : h'.get? (adr .odct) = some o') (x : KMap prog w o' (litsOf S.n) fun _ => IsIntV) : Rep prog w B D adr S h' :=
  R.upd (r := .odct) hp sb ho (fun r => Iff.rfl) rfl x fun r o n y => y
theorem Rep.u_sdic {o' : Obj} {ks : List Int} (R : Rep prog w B D adr S h) (hp : 6 ≤ S.ph) (sb : Heap.SameBut (adr .sdic) h h') (ho : h'.get? (adr .sdic) = some o') (x : KMap prog w o' ks fun _ => IsIntV) : Rep prog w B D adr { S with sk := ks } h' :=
  R.upd (r := .sdic) hp sb ho (fun r => Iff.rfl) rfl x fun r o n y => by cases r <;> first | exact y | exact dct_re y | exact absurd rfl n
def updI {α : Type} (f : Int → α) (l : Int) (v : α) : Int → α := fun x => if x = l then v else f x
theorem Rep.u_sent {o' : Obj} {l : Int} {ns : List Int} (R : Rep prog w B D adr S h) (hp : 1 ≤ S.ph) (hl : IsLit S.n l) (sb : Heap.SameBut (adr (.sent l)) h h') (ho : h'.get? (adr (.sent l)) = some o') (x : IntSet w o' ns) : Rep prog w B D adr { S with sent := updI S.sent l ns } h' :=
  R.upd (r := .sent l) ⟨hp, hl⟩ sb ho (fun r => Iff.rfl) rfl (by show IntSet w o' (updI S.sent l ns l); unfold updI; rwa [if_pos rfl]) fun r o n y => by
    cases r <;> first | exact y | exact dct_re y | skip
    rename_i l'
    show IntSet w o (updI S.sent l ns l')
    unfold updI
    rw [if_neg fun z => n (by rw [z])]; exact y
theorem Rep.u_cls {o' : Obj} {cs : List (List Int)} (R : Rep prog w B D adr S h) (hp : 4 ≤ S.ph) (sb : Heap.SameBut (adr .cls) h h') (ho : h'.get? (adr .cls) = some o') (x : ∃ as k, o' = listO (as.map Value.ref).toArray k ∧ F2 (fun a c => ∃ oc, Fz D (ownOf adr S) h' a oc ∧ IntList oc c) as cs) : Rep prog w B D adr { S with cls := cs } h' :=
  R.upd (r := .cls) hp sb ho (fun r => Iff.rfl) rfl x fun r o n y => by cases r <;> first | exact y | exact dct_re y | exact absurd rfl n
theorem Rep.u_hp {o' : Obj} {ls : List Int} (R : Rep prog w B D adr S h) (hp : 5 ≤ S.ph) (sb : Heap.SameBut (adr .hp) h h') (ho : h'.get? (adr .hp) = some o') (x : ∃ as k, o' = listO (as.map Value.ref).toArray k ∧ F2 (fun a l => ∃ i t t', Fz D (ownOf adr S) h' a (tupO #[.int i t, .int l t'])) as ls) : Rep prog w B D adr { S with hp := ls } h' :=
  R.upd (r := .hp) hp sb ho (fun r => Iff.rfl) rfl x fun r o n y => by cases r <;> first | exact y | exact dct_re y | exact absurd rfl n
theorem snoc_get {α : Type} {r : List α} {x y : α} {i : Nat} (h : (r ++ [x])[i]? = some y) : (i = r.length ∧ y = x) ∨ (i < r.length ∧ r[i]? = some y) := by
  rcases Nat.lt_trichotomy i r.length with q | q | q
  · rw [List.getElem?_append_left q] at h; exact .inr ⟨q, h⟩
  · subst q; simp at h; exact .inl ⟨rfl, h.symm⟩
  · rw [List.getElem?_eq_none (by simp; omega)] at h; cases h
theorem Rep.u_lset {o' : Obj} {ns : List Int} {r : List LV} {lv : LV} (R : Rep prog w B D adr S h) (hp : 8 ≤ S.ph) (hlast : S.lvs = r ++ [lv]) (sb : Heap.SameBut (adr (.lset r.length)) h h') (ho : h'.get? (adr (.lset r.length)) = some o') (x : IntSet w o' ns) :
    Rep prog w B D adr { S with lvs := r ++ [{ lv with lits := ns }] } h' := by
  have hlen : S.lvs.length = r.length + 1 := by rw [hlast]; simp
  refine R.upd (r := .lset r.length) ⟨hp, by omega⟩ sb ho (fun r => ?_) rfl ?_ fun q o n y => ?_
  · cases r <;> first | exact Iff.rfl | skip
    show (8 ≤ S.ph ∧ _ < (_ ++ [_]).length) ↔ (8 ≤ S.ph ∧ _ < S.lvs.length)
    rw [hlen]; simp
  · intro lv' e
    rcases snoc_get e with ⟨_, rfl⟩ | ⟨q, _⟩
    · exact x
    · omega
  · cases q <;> first | exact y | exact dct_re y | skip
    · obtain ⟨k, e, f⟩ := y
      refine ⟨k, by rw [e, hlast]; simp, fun i lv' e' => ?_⟩
      rcases snoc_get e' with ⟨rfl, rfl⟩ | ⟨q, e'⟩
      · exact f r.length lv (lvs_last hlast)
      · exact f i lv' (by rw [hlast, List.getElem?_append_left q]; exact e')
    · rename_i i
      intro lv' e'
      rcases snoc_get e' with ⟨rfl, rfl⟩ | ⟨q, e'⟩
      · exact absurd rfl n
      · exact y lv' (by rw [hlast, List.getElem?_append_left q]; exact e')
theorem Rep.more {b : Addr} {ob : Obj} (R : Rep prog w B D adr S h) (hb : ¬ D b) (e : h.get? b = some ob) (hB : B.get? b = none) : Rep prog w B (fun x => D x ∨ x = b) adr S h := by
  refine ⟨fun r hr => ?_, R.inj, fun r hr => .inl (R.sub r hr), fun x hx => hx.elim (R.off x) fun z => z ▸ hB, fun x hx => hx.elim (R.alive x) fun z => ⟨ob, z ▸ e⟩, R.syms⟩
  obtain ⟨o, q, y⟩ := R.ok r hr
  exact ⟨o, q, y.fz fun a o z => ⟨.inl z.1, z.2.1, z.2.2⟩⟩
theorem Rep.notOwn (R : Rep prog w B D adr S h) {b : Addr} (hb : ¬ D b) : ¬ ownOf adr S b := fun z => hb (R.dom z)
end
end Dp
end
section
open PySem PySem.W PySem.Calls PyProof.Rows
namespace Dp
section
variable {prog : Program} {w : World} {K : Frag} {B : Heap} {A : Around} {E : Value → Shared → Prop} {s s' : Shared} {L a l x C : Addr} {m : Str → Option Value} {adr : Role → Addr} {D : Addr → Prop} {S : SV} {cn : Str} {cs : Scope} {cd : Value} {h h' : Heap}
theorem listO_upd {xs : Array Value} {k : Nat} (ho : h.get? l = some (listO xs k)) (f : Array Value → Array Value) : ∃ k', (h.update l (Obj.mapSeq f)).get? l = some (listO (f xs) k') := ⟨_, IsL.update (n := k) ho f⟩
theorem list_push {xs : Array Value} {k : Nat} {v : Value} {Q : Value → Shared → Prop} (ho : s.heap.get? l = some (listO xs k)) (hz : xs.size ≤ sizeLine)
    (hq : ∀ h' k', Heap.SameBut l s.heap h' → h'.get? l = some (listO (xs.push v) k') → Q .none { s with heap := h' }) : wpAny (model prog w) A (call (.builtin "list.append") [.ref l, v]) Q E s := by
  have hl : s.heap.IsList l xs := listO_is ho
  refine wpAny_call_entry slot_list_append hl.typeIs entry_list_append ?_ (args_list_append _ _)
  show wpAny _ _ (updateSeq l (·.push v) >>= fun _ => ret .none) _ _ s
  refine wpAny_bind ?_
  obtain ⟨k', e⟩ := listO_upd ho (·.push v)
  exact wpAny_updateSeq ho rfl (wpAny_pure ⟨.none, rfl, hq _ k' (Heap.SameBut.update ..) e⟩)
theorem meth_list {name : Str} {id : String} {xs : Array Value} {k : Nat} {pl : Sem Bool} {Q : Value × List Value → Shared → Prop} (ho : s.heap.get? l = some (listO xs k)) (slot : Slot "list" name id) (hty : typeOf (.builtin id) = pure (.type "method_descriptor")) (hq : Q (.builtin id, [.ref l]) s) :
    wpAny (model prog w) A (getMethod (.ref l) name pl) Q E s := getMethod_builtin ⟨_, ho, rfl⟩ F.plainAttrs_list slot hty (fun a e => by injection e with e; subst e; exact ⟨_, ho, rfl⟩) hq
theorem list_pop {r : List Value} {v : Value} {k : Nat} {pos : Pos} {Q : Value → Shared → Prop} (ho : s.heap.get? l = some (listO (r ++ [v]).toArray k)) (hz : r.length < sizeLine)
    (hq : ∀ h' k', Heap.SameBut l s.heap h' → h'.get? l = some (listO r.toArray k') → Q v { s with heap := h' }) : wpAny (model prog w) A (callWith pos (.builtin "list.pop") [.ref l] [] []) Q E s := by
  obtain ⟨k', e⟩ := listO_upd ho (fun xs => xs.eraseIdxIfInBounds ((r ++ [v]).toArray.size - 1))
  refine P.pop_list (n := k) ho (by simp) (hq _ k' (Heap.SameBut.update ..) ?_) (by simp; omega)
  rw [e]
  have : (r ++ [v]).eraseIdx r.length = r := by rw [List.eraseIdx_append_of_length_le (Nat.le_refl _)]; simp
  simp [Array.eraseIdxIfInBounds, this]
theorem list_set {xs : List Value} {k : Nat} {i : Int} {t : Tok} {v : Value} {Q : Unit → Shared → Prop} (ho : s.heap.get? l = some (listO xs.toArray k)) (h0 : 0 ≤ i) (hi : i < xs.length) (hz : xs.length ≤ 1000)
    (hq : ∀ h' k', Heap.SameBut l s.heap h' → h'.get? l = some (listO (xs.set i.toNat v).toArray k') → Q () { s with heap := h' }) : wpAny (model prog w) A (setItem (.ref l) (.int i t) v) Q E s := by
  have hl : s.heap.IsList l xs.toArray := listO_is ho
  unfold setItem
  try with_reducible refine wpAny_holding ?_
  first | refine wpAny_bind (wpAny_pure ?_) | skip
  refine wpAny_bind (wpAny_sequenceKey hl.typeIs (by decide) ?_)
  refine wpAny_bind (wpAny_callSpecial?_slot (name := Str.ofString "__setitem__") hl.typeIs slot_list_setitem
    (wpAny_call_entry slot_list_setitem hl.typeIs entry_list_setitem ?_ (args_list_setitem _ _ _)))
  show wpAny _ _ (Builtin.List.listSubscript? (.int i t) >>= _) _ _ s
  refine wpAny_bind (wpAny_listSubscript_int (fitsIndex_of h0 (by omega)) ?_)
  obtain ⟨j, rfl⟩ := Int.eq_ofNat_of_zero_le h0
  have hj : j < xs.toArray.size := by simp; omega
  have hx' : xs.toArray[j]? = some xs.toArray[j] := Array.getElem?_eq_getElem hj
  show wpAny _ _ ((seqItemAt l j >>= fun r => pure (r.map (j, ·))) >>= _) _ _ s
  refine wpAny_bind (wpAny_bind (wpAny_seqItemAt ho rfl (wpAny_pure ?_)))
  rw [hx']
  show wpAny _ _ (setSeqItemAt l j v >>= _) _ _ s
  obtain ⟨k', e⟩ := listO_upd ho (·.setIfInBounds j v)
  refine wpAny_bind (wpAny_setSeqItemAt ho rfl ?_)
  have e' : (s.heap.update l (Obj.mapSeq (·.setIfInBounds j v))).get? l = some (listO (xs.set j v).toArray k') := by rw [e]; simp
  exact wpAny_pure ⟨.none, rfl, wpAny_pure (hq _ k' (Heap.SameBut.update ..) e')⟩
theorem map_set {a : Addr} {o : Obj} {ks : List Int} {V : Int → Value → Prop} {k : Int} {u : Tok} {v : Value} {Q : Unit → Shared → Prop} (ho : s.heap.get? a = some o) (x : KMap prog w o ks V) (hk : k ∈ ks) (hV : V k v) (hz : ks.length ≤ 1000)
    (hq : ∀ h' o', Heap.SameBut a s.heap h' → h'.get? a = some o' → KMap prog w o' ks V → Q () { s with heap := h', toks := s.toks + 1 }) : wpAny (model prog w) A (setItem (.ref a) (.int k u) v) Q E s := by
  obtain ⟨kvs, d, rfl, e⟩ := x
  refine wpAny_setItem_pairs (kvs := kvs) (intKind_is _ _ _ _) (d _ _ ho) (fun h' d' sb => ?_) (by rw [List.length_map] at hz; rw [sizeLine_eq]; omega)
  obtain ⟨o', es, ep, ho', r⟩ := id d'
  have hmem : ∃ kv ∈ kvs, kv.1 = k := by obtain ⟨kv, a, b⟩ := List.mem_map.mp hk; exact ⟨kv, a, b⟩
  have hst : stored kvs k v = kvs.map fun kv => if kv.1 = k then (kv.1, v) else kv := by
    unfold stored; rw [if_pos]; obtain ⟨kv, a, b⟩ := hmem; simp; exact ⟨_, by rw [← b]; exact a⟩
  refine hq h' o' sb ho' ⟨stored kvs k v, fun h'' a'' e'' => ⟨o', es, ep, e'', r⟩, by rw [hst, keys_map_store], fun kv hkv => ?_⟩
  rw [hst] at hkv
  obtain ⟨kv', a, rfl⟩ := List.mem_map.mp hkv
  by_cases c : kv'.1 = k
  · rw [if_pos c]; rw [← c] at hV; exact hV
  · rw [if_neg c]; exact e kv' a
theorem map_new {a : Addr} {o : Obj} {ks : List Int} {V : Int → Value → Prop} {k : Int} {u : Tok} {v : Value} {Q : Unit → Shared → Prop} (ho : s.heap.get? a = some o) (x : KMap prog w o ks V) (hk : k ∉ ks) (hV : V k v) (hz : ks.length ≤ 1000)
    (hq : ∀ h' o', Heap.SameBut a s.heap h' → h'.get? a = some o' → KMap prog w o' (ks ++ [k]) V → Q () { s with heap := h', toks := s.toks + 1 }) : wpAny (model prog w) A (setItem (.ref a) (.int k u) v) Q E s := by
  obtain ⟨kvs, d, rfl, e⟩ := x
  refine wpAny_setItem_pairs (kvs := kvs) (intKind_is _ _ _ _) (d _ _ ho) (fun h' d' sb => ?_) (by rw [List.length_map] at hz; rw [sizeLine_eq]; omega)
  obtain ⟨o', es, ep, ho', r⟩ := id d'
  have hst : stored kvs k v = kvs ++ [(k, v)] := by
    unfold stored; rw [if_neg]; intro c; rw [List.any_eq_true] at c; obtain ⟨kv, a, b⟩ := c; exact hk (List.mem_map.mpr ⟨kv, a, of_decide_eq_true b⟩)
  refine hq h' o' sb ho' ⟨stored kvs k v, fun h'' a'' e'' => ⟨o', es, ep, e'', r⟩, by rw [hst]; simp, fun kv hkv => ?_⟩
  rw [hst] at hkv
  rcases List.mem_append.mp hkv with q | q
  · exact e kv q
  · rw [List.mem_singleton] at q; subst q; exact hV
end
end Dp
end
section
open PySem PySem.W PySem.Calls PyProof.Rows
namespace Dp
theorem F2.perm {α β : Type} {R : α → β → Prop} {l l' : List α} {m : List β} (x : F2 R l m) (p : l'.Perm l) : ∃ m', m'.Perm m ∧ F2 R l' m' := by
  induction p generalizing m with
  | nil => cases x; exact ⟨[], .refl _, .nil⟩
  | cons a _ ih =>
    cases x with
    | cons r x => obtain ⟨m', p', x'⟩ := ih x; exact ⟨_ :: m', p'.cons _, .cons r x'⟩
  | swap a b l =>
    cases x with
    | cons r x => cases x with
      | cons r' x => exact ⟨_, .swap _ _ _, .cons r' (.cons r x)⟩
  | trans _ _ ih1 ih2 =>
    obtain ⟨m1, p1, x1⟩ := ih2 x
    obtain ⟨m2, p2, x2⟩ := ih1 x1
    exact ⟨m2, p2.trans p1, x2⟩
theorem perm_refs {l : List Value} {as : List Addr} (p : l.Perm (as.map Value.ref)) : ∃ as' : List Addr, l = as'.map Value.ref ∧ as'.Perm as := by
  have key : ∀ {l m : List Value}, l.Perm m → ∀ as : List Addr, m = as.map Value.ref → ∃ as' : List Addr, l = as'.map Value.ref ∧ as'.Perm as := by
    intro l m p
    induction p with
    | nil => rintro as e; cases as <;> simp at e; exact ⟨[], rfl, .refl _⟩
    | cons a _ ih =>
      rintro as e
      cases as with
      | nil => simp at e
      | cons b as => simp at e; obtain ⟨rfl, e⟩ := e; obtain ⟨as', e', p'⟩ := ih as e; exact ⟨b :: as', by simp [e'], p'.cons _⟩
    | swap a b l =>
      rintro as e
      cases as with
      | nil => simp at e
      | cons c as => cases as with
        | nil => simp at e
        | cons d as => simp at e; obtain ⟨rfl, rfl, rfl⟩ := e; exact ⟨d :: c :: as, by simp, .swap _ _ _⟩
    | trans _ _ ih1 ih2 =>
      rintro as e
      obtain ⟨as1, e1, p1⟩ := ih2 as e
      obtain ⟨as2, e2, p2⟩ := ih1 as1 e1
      exact ⟨as2, e2, p2.trans p1⟩
  exact key p as rfl
section
variable {prog : Program} {w : World} {K : Frag} {B : Heap} {A : Around} {E : Value → Shared → Prop} {s s' : Shared} {L a l x C : Addr} {m : Str → Option Value} {adr : Role → Addr} {D : Addr → Prop} {S : SV} {cn : Str} {cs : Scope} {cd : Value} {h h' : Heap}
theorem Rep.ne {r : Role} (R : Rep prog w B D adr S h) (hr : S.live r) {b : Addr} (hb : ¬ ownOf adr S b) : b ≠ adr r := fun z => hb ⟨r, hr, z.symm⟩
theorem Rep.pts (R : Rep prog w B D adr S s.heap) (hp : 5 ≤ S.ph) {as : List Addr} {ls : List Int} (f : F2 (fun a l => ∃ i t t', Fz D (ownOf adr S) s.heap a (tupO #[.int i t, .int l t'])) as ls) : ∀ v ∈ as.map Value.ref, PT s.heap (adr .hp) v := by
  intro v hv
  obtain ⟨b, hb, rfl⟩ := List.mem_map.mp hv
  obtain ⟨i, hi⟩ := List.getElem?_of_mem hb
  obtain ⟨l, _, i, t, t', z⟩ := f.get' hi
  exact ⟨b, i, l, t, t', rfl, R.ne (r := .hp) hp z.2.1, z.2.2⟩
theorem rep_push {b : Addr} {i l : Int} {t t' : Tok} {Q : Value → Shared → Prop} (R : Rep prog w B D adr S s.heap) (hp : 5 ≤ S.ph) (hb : ¬ D b) (e : s.heap.get? b = some (tupO #[.int i t, .int l t'])) (hB : B.get? b = none) (hz : S.hp.length < 10000) (hu : A.units + 40 < cLine)
    (hq : ∀ s' hp', hp'.Perm (S.hp ++ [l]) → Rep prog w B (fun x => D x ∨ x = b) adr { S with hp := hp' } s'.heap → Eff (fun x => x = adr .hp) s s' → Q .none s') :
    wpAny (model prog w) A (call (.builtin "_heapq.heappush") [.ref (adr .hp), .ref b]) Q E s := by
  obtain ⟨o, h1, as, k, rfl, f⟩ := R.o_hp hp
  have R' := R.more hb e hB
  have hbo : b ≠ adr .hp := R.ne (r := .hp) hp (R.notOwn hb)
  refine heap_push h1 (by rw [sizeLine_eq, List.size_toArray, List.length_map, f.length]; omega) (fun v hv => R.pts hp f v (by simpa using hv)) ⟨b, i, l, t, t', rfl, hbo, e⟩ hu fun h' xs' k' sb g p => ?_
  have p' : xs'.toList.Perm ((as ++ [b]).map Value.ref) := by simpa using p
  obtain ⟨as', e1, p1⟩ := perm_refs p'
  have f' : F2 (fun a l => ∃ i t t', Fz (fun x => D x ∨ x = b) (ownOf adr S) s.heap a (tupO #[.int i t, .int l t'])) (as ++ [b]) (S.hp ++ [l]) :=
    (f.imp fun a l ⟨i, t, t', z⟩ => ⟨i, t, t', .inl z.1, z.2⟩).append (.cons ⟨i, t, t', .inr rfl, R.notOwn hb, e⟩ .nil)
  obtain ⟨hp', p2, f2⟩ := f'.perm p1
  refine hq _ hp' p2 (R'.u_hp hp sb g ⟨as', k', by rw [← e1], f2.imp fun a l ⟨i, t, t', z⟩ => ⟨i, t, t', z.1, z.2.1, (sb.2 a (R.ne (r := .hp) hp z.2.1)).trans z.2.2⟩⟩) (sb_eff (tk := s.toks) sb rfl)
theorem rep_pop {l : Int} {ls : List Int} {Q : Value → Shared → Prop} (R : Rep prog w B D adr S s.heap) (hp : 5 ≤ S.ph) (hl : S.hp = l :: ls) (hz : S.hp.length < 10000) (hu : A.units + 40 < cLine)
    (hq : ∀ s' b i t t' hp', (l :: hp').Perm S.hp → Rep prog w B D adr { S with hp := hp' } s'.heap → Eff (fun x => x = adr .hp) s s' → s'.heap.get? b = some (tupO #[.int i t, .int l t']) → Q (.ref b) s') :
    wpAny (model prog w) A (call (.builtin "_heapq.heappop") [.ref (adr .hp)]) Q E s := by
  obtain ⟨o, h1, as, k, rfl, f⟩ := R.o_hp hp
  have hpt := R.pts hp f
  have hlen := f.length
  rw [hl] at f
  cases f with
  | cons r0 f0 =>
    rename_i b as0
    obtain ⟨i, t, t', z⟩ := r0
    refine heap_pop h1 (by rw [sizeLine_eq, List.size_toArray, List.length_map, hlen]; omega) (fun v hv => hpt v (by simpa using hv)) hu (by simp; rfl) fun h' xs' k' sb g p => ?_
    have p' : xs'.toList.Perm (as0.map Value.ref) := by
      have := p; simp at this; exact this
    obtain ⟨as', e1, p1⟩ := perm_refs p'
    obtain ⟨hp', p2, f2⟩ := f0.perm p1
    refine hq _ b i t t' hp' (by rw [hl]; exact p2.cons l) (R.u_hp hp sb g ⟨as', k', by rw [← e1], f2.imp fun a l ⟨i, t, t', z⟩ => ⟨i, t, t', z.1, z.2.1, (sb.2 a (R.ne (r := .hp) hp z.2.1)).trans z.2.2⟩⟩) (sb_eff (tk := s.toks) sb rfl) ((sb.2 b (R.ne (r := .hp) hp z.2.1)).trans z.2.2)
end
end Dp
end
section
open PySem PySem.W PySem.Calls PyProof.Rows
namespace Dp
section
variable {prog : Program} {w : World} {K : Frag} {B : Heap} {A : Around} {E : Value → Shared → Prop} {s s' : Shared} {L a l x C : Addr} {m : Str → Option Value} {adr : Role → Addr} {D : Addr → Prop} {S : SV} {cn : Str} {cs : Scope} {cd : Value} {h h' : Heap}
theorem updS_self {m : Str → Option Value} {x : Str} {v : Value} : updS m x v x = some v := if_pos rfl
theorem updS_ne {m : Str → Option Value} {x y : Str} {v : Value} (n : y ≠ x) : updS m x v y = m y := if_neg n
theorem Eff.sub {P P' : Addr → Prop} {s s' : Shared} (x : Eff P s s') (k : ∀ b, P b → P' b) : Eff P' s s' := ⟨fun b o n e => x.keep b o (fun q => n (k b q)) e, x.gens, x.os⟩
theorem asn {x : Str} {px pos : Pos} {value : PySem.Expr} {Q : Flow → Shared → Prop} (h : wpAny (model prog w) A (eval value (envOf cn cs L a cd)) (fun v s₁ => ∃ m₁, Fr B L s₁.heap m₁ ∧ ∀ s₂, Fr B L s₂.heap (updS m₁ x v) → Eff (fun b => b = L) s₁ s₂ → Q .next s₂) E s)
    (hk : cs.kind = .function := by rfl) (hx : (envOf cn cs L a cd).kindOf x = some .local := by rfl) (hs : swapsWith value (some (.Name x px)) pos.line (envOf cn cs L a cd) = pure false := by rfl) :
    wpAny (model prog w) A (exec (.Assign [.Name x px] value pos) (envOf cn cs L a cd)) Q E s := by
  refine wpAny_Assign_Name (wpAny_mono h (fun v s₁ ⟨m₁, F, hq⟩ => ?_) fun _ _ x => x) hs
  exact wpAny_storeName_local hx F.ns (fun h'' hn'' sb' => hq _ (F.set hn'' sb') (sb_eff sb' rfl)) (by show (cs.kind == .class || (cs.kind == .module && L != mainGlobals)) = false; rw [hk]; rfl)
theorem nmB {x : Str} {v : Value} {pos : Pos} {Q : Value → Shared → Prop} (G : Bas w K B) (kf : KF K) (F : Fr B L s.heap m) (h : Q v s) (hin : x ∈ (["len", "abs", "range", "list", "set", "sorted", "str", "enumerate"] : List Str) := by decide) (hv : bootBuiltins x = some v := by rfl) (hn : x ≠ "__name__" := by decide)
    (hk : cs.kind = .function := by rfl) (hx : (envOf cn cs L a cd).kindOf x = some .globalImplicit := by rfl) (hd : (x == ("__debug__" : Str)) = false := by decide) : wpAny (model prog w) A (eval (.Name x pos) (envOf cn cs L a cd)) Q E s := by
  obtain ⟨_, _, _, _, T⟩ := G.top
  exact name_B F G.K T (kf.gNone x hin) hv hn h hk hx hd
theorem nmK {x : Str} {v : Value} {pos : Pos} {Q : Value → Shared → Prop} (G : Bas w K B) (F : Fr B L s.heap m) (e : nsIn K mainGlobals x = some (some v)) (h : Q v s) (hk : cs.kind = .function := by rfl) (hx : (envOf cn cs L a cd).kindOf x = some .globalImplicit := by rfl) (hd : (x == ("__debug__" : Str)) = false := by decide) :
    wpAny (model prog w) A (eval (.Name x pos) (envOf cn cs L a cd)) Q E s := by
  obtain ⟨_, _, _, _, T⟩ := G.top
  exact name_K F G.K T e h hk hx hd
theorem absN {f n : Str} {fp p pos : Pos} {v : Int} {t : Tok} {Q : Value → Shared → Prop} (G : Bas w K B) (kf : KF K) (F : Fr B L s.heap m) (hn : m n = some (.int v t)) (hq : ∀ s' u, s'.heap = s.heap → Eff No s s' → Q (.int v.natAbs u) s')
    (hf : f = "abs" := by rfl) (hkf : (envOf cn cs L a cd).kindOf f = some .globalImplicit := by rfl) (hk : cs.kind = .function := by rfl) (hl : (envOf cn cs L a cd).kindOf n = some .local := by rfl) (hd : (n == ("__debug__" : Str)) = false := by decide) :
    wpAny (model prog w) A (eval (.Call (.Name f fp) [.Name n p] [] pos) (envOf cn cs L a cd)) Q E s := by
  subst hf
  refine Call_ (nmB G kf F (callWith_builtin1 (args_cons (ld F hn (args_nil (call_abs_int fun u tk => ?_)) hk hl hd))) (hk := hk) (hx := hkf))
  have e : (if v < 0 then -v else v) = (v.natAbs : Int) := by split <;> omega
  rw [e]
  exact hq _ _ rfl ⟨fun _ _ _ e => e, rfl, rfl⟩
theorem new_none {h : Heap} : h.get? h.objs.size = none := by
  cases q : h.get? h.objs.size with
  | none => rfl
  | some ob => exact absurd (Heap.lt_size q) (Nat.lt_irrefl _)
theorem new_tuple {vs : List Value} {Q : Value → Shared → Prop} (hz : vs.length ≤ sizeLine) (hq : ∀ s' b, s.heap.get? b = none → s'.heap.get? b = some (tupO vs.toArray) → Eff No s s' → Q (.ref b) s') : wpAny (model prog w) A (newTuple vs) Q E s :=
  wpAny_newObj_type (hq _ s.heap.objs.size new_none (Heap.get?_push_size _ rfl) ⟨fun b o _ e => Heap.get?_push_of_some _ e, rfl, rfl⟩) (by show vs.toArray.size ≤ sizeLine; rw [List.size_toArray]; exact hz)
theorem new_list {vs : List Value} {Q : Value → Shared → Prop} (hz : vs.length ≤ sizeLine) (hq : ∀ s' b, s.heap.get? b = none → s'.heap.get? b = some (listO vs.toArray 0) → Eff No s s' → Q (.ref b) s') : wpAny (model prog w) A (newList vs) Q E s :=
  wpAny_newObj_type (hq _ s.heap.objs.size new_none (Heap.get?_push_size _ rfl) ⟨fun b o _ e => Heap.get?_push_of_some _ e, rfl, rfl⟩) (by show vs.toArray.size ≤ sizeLine; rw [List.size_toArray]; exact hz)
theorem push_stmtP {n nv f : Str} {v : Int} {tv : Tok} {pv pv' fp p1 p2 p3 p4 p5 tp cp pos : Pos} {tk : Nat} {Q : Flow → Shared → Prop} (G : Bas w K B) (kf : KF K) (F : Fr B L s.heap m) (R : Rep prog w B D adr S s.heap) (hu : A.units + 40 < cLine) (hph : 6 ≤ S.ph) (hm : m n = some (.ref (adr .slf))) (hv : m nv = some (.int v tv)) (hsk : v ∈ S.sk) (hz : S.hp.length < 10000)
    (hq : ∀ s' D' hp', hp'.Perm (S.hp ++ [v]) → Rep prog w B D' adr { S with hp := hp' } s'.heap → (∀ b, D b → D' b) → (∀ b, D' b → D b ∨ s.heap.get? b = none) → Fr B L s'.heap m → Eff (fun b => b = adr .hp) s s' → Q .next s') (hLD : ¬ D L)
    (hf : f = "heappush" := by rfl) (hkf : (envOf cn cs L a cd).kindOf f = some .globalImplicit := by rfl) (hk : cs.kind = .function := by rfl) (hl : (envOf cn cs L a cd).kindOf n = some .local := by rfl) (hd : (n == ("__debug__" : Str)) = false := by decide) (hlv : (envOf cn cs L a cd).kindOf nv = some .local := by rfl) (hdv : (nv == ("__debug__" : Str)) = false := by decide)
    (hi : interactive (envOf cn cs L a cd) = false := by rfl)
    (hA : ∀ (attr : Str) (p pos : Pos), eval (.Attribute (.Name n p) attr pos) (envOf cn cs L a cd) = (do
      let o ← eval (.Name n p) (envOf cn cs L a cd)
      standAt pos.atName
      let r ← holding [o] (getAttr o attr true)
      letTemporaryGo (.Name n p) o r
      pure r) := by intros; with_unfolding_all rfl) :
    wpAny (model prog w) A (exec (.Expr (.Call (.Name f fp) [.Attribute (.Name n p1) "lit_heap" p2, .Tuple [.Subscript (.Attribute (.Name n p3) "lit_scores" p4) (.Name nv pv) p5, .Name nv pv'] tk tp] [] cp) pos) (envOf cn cs L a cd)) Q E s := by
  subst hf
  refine wpAny_Expr ?_ hi
  refine Call_ ?_
  refine nmK G F kf.gPush ?_ hk hkf
  refine callWith_builtin1 (id := "_heapq.heappush") (pos := cp) (e := .Attribute (.Name n p1) "lit_heap" p2) (env := envOf cn cs L a cd) ?_
  refine args_cons ?_
  refine attr_name G F kf.S hm (R.h_hp (by omega)) (by decide) rfl ?_ hk hl hd (hA _ _ _)
  refine args_cons ?_
  have R₁ : Rep prog w B D adr S { s with toks := s.toks + 1 }.heap := R
  obtain ⟨od, h1, hod⟩ := R.o_sdic hph
  refine Tuple_ (args_cons (Subscript_ (attr_name (s := { s with toks := s.toks + 1 }) G F kf.S hm (R.h_sdic hph) (by decide) rfl (ld F hv ?_ hk hlv hdv) hk hl hd (hA _ _ _))))
  refine itemMap h1 hod hsk (fun vv hv => ?_)
  obtain ⟨i, t, rfl⟩ := hv
  refine args_cons (ld F hv (args_nil ?_) hk hlv hdv)
  refine new_tuple (by rw [sizeLine_eq]; simp) fun s₄ b hb hb4 e₄ => args_nil ?_
  have e04 : Eff No s s₄ := ⟨fun b o n e => e₄.keep b o n e, e₄.gens, e₄.os⟩
  have R₄ : Rep prog w B D adr S s₄.heap := R.keep fun b o q => e04.all q
  have hbs : s.heap.get? b = none := hb
  refine rep_push R₄ (by omega) (R.new hbs) hb4 ((frOn F).none hbs) hz hu fun s₅ hp' p R₅ e₅ => ?_
  have hown : S.live .hp := by show 5 ≤ S.ph; omega
  refine hq s₅ _ hp' p R₅ (fun b hb => .inl hb) (fun x hx => hx.elim .inl fun z => .inr (by rw [show x = b from z]; exact hbs)) ?_ (e04.no.same e₅)
  refine Fr_eff (Fr_no F e04) e₅ (fun z => hLD (by rw [z]; exact R.sub .hp hown)) fun b o q z => ?_
  have := R.off b (by rw [z]; exact R.sub .hp hown); rw [q] at this; cases this
theorem push_stmtN {n nv f : Str} {v : Int} {tv : Tok} {pv uv pv' uv' fp p1 p2 p3 p4 p5 tp cp pos : Pos} {tk : Nat} {Q : Flow → Shared → Prop} (G : Bas w K B) (kf : KF K) (F : Fr B L s.heap m) (R : Rep prog w B D adr S s.heap) (hu : A.units + 40 < cLine) (hph : 6 ≤ S.ph) (hm : m n = some (.ref (adr .slf))) (hv : m nv = some (.int v tv)) (hsk : -v ∈ S.sk) (hz : S.hp.length < 10000)
    (hq : ∀ s' D' hp', hp'.Perm (S.hp ++ [-v]) → Rep prog w B D' adr { S with hp := hp' } s'.heap → (∀ b, D b → D' b) → (∀ b, D' b → D b ∨ s.heap.get? b = none) → Fr B L s'.heap m → Eff (fun b => b = adr .hp) s s' → Q .next s') (hLD : ¬ D L)
    (hf : f = "heappush" := by rfl) (hkf : (envOf cn cs L a cd).kindOf f = some .globalImplicit := by rfl) (hk : cs.kind = .function := by rfl) (hl : (envOf cn cs L a cd).kindOf n = some .local := by rfl) (hd : (n == ("__debug__" : Str)) = false := by decide) (hlv : (envOf cn cs L a cd).kindOf nv = some .local := by rfl) (hdv : (nv == ("__debug__" : Str)) = false := by decide)
    (hi : interactive (envOf cn cs L a cd) = false := by rfl)
    (hA : ∀ (attr : Str) (p pos : Pos), eval (.Attribute (.Name n p) attr pos) (envOf cn cs L a cd) = (do
      let o ← eval (.Name n p) (envOf cn cs L a cd)
      standAt pos.atName
      let r ← holding [o] (getAttr o attr true)
      letTemporaryGo (.Name n p) o r
      pure r) := by intros; with_unfolding_all rfl) :
    wpAny (model prog w) A (exec (.Expr (.Call (.Name f fp) [.Attribute (.Name n p1) "lit_heap" p2, .Tuple [.Subscript (.Attribute (.Name n p3) "lit_scores" p4) (.UnaryOp .USub (.Name nv pv) uv) p5, .UnaryOp .USub (.Name nv pv') uv'] tk tp] [] cp) pos) (envOf cn cs L a cd)) Q E s := by
  subst hf
  refine wpAny_Expr ?_ hi
  refine Call_ ?_
  refine nmK G F kf.gPush ?_ hk hkf
  refine callWith_builtin1 (id := "_heapq.heappush") (pos := cp) (e := .Attribute (.Name n p1) "lit_heap" p2) (env := envOf cn cs L a cd) ?_
  refine args_cons ?_
  refine attr_name G F kf.S hm (R.h_hp (by omega)) (by decide) rfl ?_ hk hl hd (hA _ _ _)
  refine args_cons ?_
  have R₁ : Rep prog w B D adr S { s with toks := s.toks + 1 }.heap := R
  obtain ⟨od, h1, hod⟩ := R.o_sdic hph
  refine Tuple_ (args_cons (Subscript_ (attr_name (s := { s with toks := s.toks + 1 }) G F kf.S hm (R.h_sdic hph) (by decide) rfl (UnaryOp_ (ld F hv (P.neg_int ?_) hk hlv hdv)) hk hl hd (hA _ _ _))))
  refine itemMap h1 hod hsk (fun vv hv => ?_)
  obtain ⟨i, t, rfl⟩ := hv
  refine args_cons (UnaryOp_ (ld F hv (P.neg_int (args_nil ?_)) hk hlv hdv))
  refine new_tuple (by rw [sizeLine_eq]; simp) fun s₄ b hb hb4 e₄ => args_nil ?_
  have e04 : Eff No s s₄ := ⟨fun b o n e => e₄.keep b o n e, e₄.gens, e₄.os⟩
  have R₄ : Rep prog w B D adr S s₄.heap := R.keep fun b o q => e04.all q
  have hbs : s.heap.get? b = none := hb
  refine rep_push R₄ (by omega) (R.new hbs) hb4 ((frOn F).none hbs) hz hu fun s₅ hp' p R₅ e₅ => ?_
  have hown : S.live .hp := by show 5 ≤ S.ph; omega
  refine hq s₅ _ hp' p R₅ (fun b hb => .inl hb) (fun x hx => hx.elim .inl fun z => .inr (by rw [show x = b from z]; exact hbs)) ?_ (e04.no.same e₅)
  refine Fr_eff (Fr_no F e04) e₅ (fun z => hLD (by rw [z]; exact R.sub .hp hown)) fun b o q z => ?_
  have := R.off b (by rw [z]; exact R.sub .hp hown); rw [q] at this; cases this
theorem call_vsids_lit_unset {lit : Int} {t : Tok} {Rr : Result → Shared → Prop} (G : Bas w K B) (kf : KF K) (o : On B s.heap) (R : Rep prog w B D adr S s.heap) (rm : Rm A 1) (hph : 6 ≤ S.ph) (hl : IsLit S.n lit) (hs : ∀ l, IsLit S.n l → l ∈ S.sk) (hz : S.hp.length + 2 < 10000)
    (hq : ∀ s' D' hp', hp'.Perm (S.hp ++ [(lit.natAbs : Int), -(lit.natAbs : Int)]) → Rep prog w B D' adr { S with hp := hp' } s'.heap → (∀ b, D b → D' b) → (∀ b, D' b → D b ∨ s.heap.get? b = none) → Eff (fun b => b = adr .hp) s s' → Rr (.ok (.ret .none)) s') :
    codeAny (model prog w) A (.call (.ref 178) ⟨[.ref (adr .slf), .int lit t], []⟩) Rr s := by
  obtain ⟨pm, ho⟩ := kf.fVU.fn.at_
  refine call_fn (binds := [("self", .ref (adr .slf)), ("lit", .int lit t)]) G o ho kf.fVU.fn.code rm.room (BindsTo.of_eq rfl) (locs rfl) (fun h₁ L F hL hk => ?_)
  have R₁ := R.keep hk
  refine wpAny_execs_cons (asn (absN G kf F rfl fun s₂ u e₂ f₂ => ⟨_, Fr_no F f₂, fun s₃ F₃ f₃ => ?_⟩))
  have hLD : ¬ D L := R.new hL
  have e3 : Eff No s s₃ := by
    have a1 : Eff No s s₂ := ⟨fun b o n q => f₂.keep b o n (hk b o q), f₂.gens, f₂.os⟩
    exact a1.new f₃ fun b hb => by rw [hb]; exact hL
  have R₃ : Rep prog w B D adr S s₃.heap := R.keep fun b o q => e3.all q
  have l1 : IsLit S.n (lit.natAbs : Int) := ⟨by have := hl.1; omega, by have := hl.2; simpa using this⟩
  have l2 : IsLit S.n (-(lit.natAbs : Int)) := ⟨by have := hl.1; omega, by have := hl.2; simpa using this⟩
  have hu : (A.deeper (envOf ("SATSolver." ++ "_vsids_lit_unset") (dScope (meth "_vsids_lit_unset")) L 178 (.ref 177))).units + 40 < cLine := by have := rm.deeper (env := envOf ("SATSolver." ++ "_vsids_lit_unset") (dScope (meth "_vsids_lit_unset")) L 178 (.ref 177)); have := rm.un; show A.units + 3 + 40 < _; omega
  refine wpAny_execs_cons (push_stmtP G kf F₃ R₃ hu hph rfl rfl (hs _ l1) (by omega) ?_ hLD)
  intro s₄ D₁ hp₁ p₁ R₄ d1 d2 F₄ e4
  have hL3 : s₃.heap.get? L ≠ none := by obtain ⟨o, q⟩ := Fr_live F₃; rw [q]; simp
  have hLD₁ : ¬ D₁ L := fun z => (d2 L z).elim hLD hL3
  refine wpAny_execs_cons (push_stmtN G kf F₄ R₄ hu hph rfl rfl (hs _ l2) (by rw [p₁.length_eq]; simp; omega) ?_ hLD₁)
  intro s₅ D₂ hp₂ p₂ R₅ g1 g2 F₅ e5
  refine wpAny_execs_nil (hq s₅ D₂ hp₂ (p₂.trans (by simpa using p₁.append_right _)) R₅ (fun b hb => g1 b (d1 b hb)) (fun b hb => ?_) ((e3.no.same e4).same e5))
  have back : ∀ b, s₃.heap.get? b = none → s.heap.get? b = none := fun b q => e3.none q
  rcases g2 b hb with q | q
  · exact (d2 b q).imp id (back b)
  · by_cases c : D b
    · exact .inl c
    · refine .inr (back b ?_)
      cases z : s₃.heap.get? b with
      | none => rfl
      | some ob =>
        have hown : S.live .hp := by show 5 ≤ S.ph; omega
        rw [e4.keep b ob (fun y => c (by rw [y]; exact R.sub .hp hown)) z] at q; cases q
end
end Dp
end
section
open PySem PySem.W PySem.Calls PyProof.Rows
namespace Dp
structure Gr (D D' : Addr → Prop) (s s' : Shared) : Prop where
  up : ∀ b, D b → D' b
  back : ∀ b, D' b → D b ∨ s.heap.get? b = none
  eff : Eff D s s'
section
variable {prog : Program} {w : World} {K : Frag} {B : Heap} {A : Around} {E : Value → Shared → Prop} {s s' s₁ s₂ : Shared} {L a l x C : Addr} {m : Str → Option Value} {adr : Role → Addr} {D D₁ D₂ P : Addr → Prop} {S S' : SV} {cn : Str} {cs : Scope} {cd : Value} {h h' : Heap}
theorem Gr.no (e : Eff No s s') : Gr D D s s' := ⟨fun _ h => h, fun _ h => .inl h, e.no⟩
theorem Gr.of (e : Eff P s s') (k : ∀ b, P b → D b) : Gr D D s s' := ⟨fun _ h => h, fun _ h => .inl h, e.sub k⟩
theorem Gr.grow (e : Eff P s s') (k : ∀ b, P b → D b) (u : ∀ b, D b → D₁ b) (v : ∀ b, D₁ b → D b ∨ s.heap.get? b = none) : Gr D D₁ s s' := ⟨u, v, e.sub k⟩
theorem Gr.trans (x : Gr D D₁ s s₁) (y : Gr D₁ D₂ s₁ s₂) : Gr D D₂ s s₂ := by
  refine ⟨fun b hb => y.up b (x.up b hb), fun b hb => ?_, x.eff.trans y.eff x.back⟩
  rcases y.back b hb with q | q
  · exact x.back b q
  · refine (Classical.em (D b)).elim .inl fun n => .inr ?_
    cases z : s.heap.get? b with
    | none => rfl
    | some ob => rw [x.eff.keep b ob n z] at q; cases q
theorem Gr.loc (x : Gr D D₁ s s₁) (e : Eff P s₁ s₂) (hL : ∀ b, P b → s.heap.get? b = none) : Gr D D₁ s s₂ := ⟨x.up, x.back, x.eff.new e hL⟩
theorem Gr.notin (x : Gr D D₁ s s₁) (hL : ¬ D L) (hal : ∃ o, s.heap.get? L = some o) : ¬ D₁ L := fun z => (x.back L z).elim hL fun q => by obtain ⟨o, e⟩ := hal; rw [e] at q; cases q
theorem Gr.fr (x : Gr D D₁ s s₁) (F : Fr B L s.heap m) (hL : ¬ D L) (hB : ∀ b, D b → B.get? b = none) : Fr B L s₁.heap m := Fr_eff F x.eff hL fun b o e hb => by rw [hB b hb] at e; cases e
theorem Fr_eff' (F : Fr B L s.heap m) (e : Eff P s s') (hL : ¬ P L) (hP : ∀ b, P b → D b) (hB : ∀ b, D b → B.get? b = none) : Fr B L s'.heap m := Fr_eff F e hL fun b o q hb => by rw [hB b (hP b hb)] at q; cases q
theorem Rep.pop {r : List LV} {lv : LV} {k : Nat} (R : Rep prog w B D adr S h) (hp : 8 ≤ S.ph) (hlast : S.lvs = r ++ [lv]) (sb : Heap.SameBut (adr .lvs) h h') (ho : h'.get? (adr .lvs) = some (listO (r.map fun lv => Value.ref lv.ob).toArray k)) :
    Rep prog w B D adr { S with lvs := r } h' := by
  have hlen : S.lvs.length = r.length + 1 := by rw [hlast]; simp
  have lv' : ∀ q, SV.live { S with lvs := r } q → S.live q := by
    intro q hq
    cases q <;> first | exact hq | skip
    obtain ⟨a, b⟩ := hq
    exact ⟨a, by rw [hlen]; exact Nat.lt_succ_of_lt b⟩
  have own : ∀ a, ownOf adr { S with lvs := r } a → ownOf adr S a := fun a ⟨q, h1, h2⟩ => ⟨q, lv' q h1, h2⟩
  have hfz : ∀ c oc, Fz D (ownOf adr S) h c oc → Fz D (ownOf adr { S with lvs := r }) h' c oc := fun c oc z => ⟨z.1, fun y => z.2.1 (own c y), (sb.2 c fun y => z.2.1 ⟨.lvs, hp, y.symm⟩).trans z.2.2⟩
  refine ⟨fun q hq => ?_, fun q q' a b e => R.inj q q' (lv' q a) (lv' q' b) e, fun q hq => R.sub q (lv' q hq), R.off, fun b hb => ?_, R.syms⟩
  · obtain ⟨o, h1, h2⟩ := R.ok q (lv' q hq)
    by_cases e : q = .lvs
    · subst e
      refine ⟨_, ho, k, rfl, fun i lv' e' => ?_⟩
      obtain ⟨k', e2, f⟩ := h2
      have hi : i < r.length := by rcases Nat.lt_or_ge i r.length with q | q; exact q; rw [List.getElem?_eq_none q] at e'; cases e'
      obtain ⟨z, es, m', g, t, z', rest⟩ := f i lv' (by rw [hlast, List.getElem?_append_left hi]; exact e')
      exact ⟨hfz _ _ z, es, m', g, t, hfz _ _ z', rest⟩
    · refine ⟨o, (sb.2 _ fun z => e (R.inj q .lvs (lv' q hq) hp z)).trans h1, ?_⟩
      have h3 := h2.fz hfz
      cases q <;> first | exact h3 | exact dct_re h3 | exact absurd rfl e | skip
      rename_i i
      intro lv' e'
      have hi : i < r.length := by rcases Nat.lt_or_ge i r.length with q | q; exact q; rw [List.getElem?_eq_none q] at e'; cases e'
      exact h3 lv' (by rw [hlast, List.getElem?_append_left hi]; exact e')
  · by_cases e : b = adr .lvs
    · subst e; exact ⟨_, ho⟩
    · obtain ⟨o, q⟩ := R.alive b hb; exact ⟨o, (sb.2 b e).trans q⟩
def both (l : Int) : List Int := [(l.natAbs : Int), -(l.natAbs : Int)]
structure Undo (S : SV) (ms : List Int) (S' : SV) : Prop where
  ex : ∃ hp', hp'.Perm (S.hp ++ ms.flatMap both) ∧ S' = { S with vs := ms.foldl List.erase S.vs, vars := ms.foldl (fun b l => b.set l.natAbs false) S.vars, hp := hp' }
theorem both_len (ms : List Int) : (ms.flatMap both).length = 2 * ms.length := by
  induction ms with
  | nil => rfl
  | cons x r ih => rw [List.flatMap_cons, List.length_append, ih, List.length_cons]; show 2 + _ = _; omega
theorem vars_len (ms : List Int) (bs : List Bool) : (ms.foldl (fun b l => b.set l.natAbs false) bs).length = bs.length := by
  induction ms generalizing bs with
  | nil => rfl
  | cons x r ih => simp [List.foldl_cons, ih]
theorem foldl_erase_len (ms : List Int) (bs : List Int) : (ms.foldl List.erase bs).length ≤ bs.length := by
  induction ms generalizing bs with
  | nil => simp
  | cons x r ih => exact Nat.le_trans (ih _) (List.length_erase_le ..)
theorem mem_foldl_erase {ms : List Int} {bs : List Int} (hn : bs.Nodup) {x : Int} : x ∈ ms.foldl List.erase bs ↔ x ∈ bs ∧ x ∉ ms := by
  induction ms generalizing bs with
  | nil => simp
  | cons y r ih => rw [List.foldl_cons, ih (hn.erase y), List.Nodup.mem_erase_iff hn]; simp; exact ⟨fun ⟨⟨a, b⟩, c⟩ => ⟨b, a, c⟩, fun ⟨b, a, c⟩ => ⟨⟨a, b⟩, c⟩⟩
theorem call_undo {lv : LV} {r : List LV} {Rr : Result → Shared → Prop} (G : Bas w K B) (kf : KF K) (o : On B s.heap) (R : Rep prog w B D adr S s.heap) (rm : Rm A 3) (hph : 8 ≤ S.ph) (hlast : S.lvs = r ++ [lv]) (hlz : S.lvs.length ≤ 100) (hlit : ∀ l ∈ lv.lits, IsLit S.n l) (hin : ∀ l ∈ lv.lits, l ∈ S.vs) (hv : S.vars.length = S.n + 1) (hn : S.n ≤ 20) (hvz : S.vs.length < scanBound) (hlz' : lv.lits.length < scanBound) (hs : ∀ l, IsLit S.n l → l ∈ S.sk) (hz : S.hp.length + 2 * lv.lits.length + 2 < 10000)
    (hq : ∀ s' D' ms S', ms.Perm lv.lits → Undo S ms S' → Rep prog w B D' adr { S' with lvs := r } s'.heap → Gr D D' s s' → Rr (.ok (.ret .none)) s') :
    codeAny (model prog w) A (.call (.ref 129) ⟨[.ref (adr .slf)], []⟩) Rr s := by
  obtain ⟨pm, ho⟩ := kf.fUn.fn.at_
  refine call_fn (binds := [("self", .ref (adr .slf))]) G o ho kf.fUn.fn.code rm.room (BindsTo.of_eq rfl) (locs rfl) (fun h₁ L F hL hk => ?_)
  have R₁ := R.keep hk
  have hLD : ¬ D L := R.new hL
  refine wpAny_execs_cons (wpAny_For (Attribute_any_ (cur_level G kf F R₁ rfl hph hlast hlz (rm.deeper (d := 2)) fun s₂ e₂ => ?_)))
  have e2 : Eff No s s₂ := ⟨fun b o n q => e₂.keep b o n (hk b o q), e₂.gens, e₂.os⟩
  have R₂ : Rep prog w B D adr S s₂.heap := R.keep fun b o q => e2.all q
  have F₂ := Fr_no F e₂
  obtain ⟨ol, h1, k, rfl, hlv⟩ := R₂.o_lvs hph
  obtain ⟨z1, es, k', f, t, z2, hd, hdec, hfl, hset⟩ := hlv r.length lv (lvs_last hlast)
  obtain ⟨oset, g1, g2⟩ := R₂.o_lset hph (lvs_last hlast)
  refine getAttr_has G F₂ kf.Lv ⟨lv.dc, es, k', ⟨z1.2.2, rfl, rfl, z2.2.2⟩, by rw [hd]; exact congrArg some hset⟩ (by decide) rfl ?_
  refine iter_setI (s := { s₂ with toks := s₂.toks + 1 }) g1 g2 hlz' fun s₃ tmp it T ms e₃ hfr IT hT hperm => ?_
  have e3 : Eff No s s₃ := ⟨fun b o n q => e₃.keep b o n (e2.keep b o n q), e₃.gens.trans e2.gens, e₃.os.trans e2.os⟩
  have R₃ : Rep prog w B D adr S s₃.heap := R.keep fun b o q => e3.all q
  have F₃ := Fr_no (s := { s₂ with toks := s₂.toks + 1 }) F₂ e₃
  have hts : ∀ b ∈ tmp, s.heap.get? b = none := fun b hb => e2.none (hfr b hb)
  have hLt : L ∉ tmp := fun z => by obtain ⟨o, q⟩ := Fr_live F₂; rw [hfr L z] at q; cases q
  have hslot : S.live (.lset r.length) := ⟨hph, by rw [hlast]; simp⟩
  refine loop_iter (prog := prog) (w := w) (B := B) rm.deeper.hh IT hLt (fun z => hLD (by rw [List.mem_singleton] at z; rw [z]; exact R.sub _ hslot)) (fun b hb => o.none (hts b hb))
    (fun rem m s' => m "self" = some (.ref (adr .slf)) ∧ ∃ D' S' done, done ++ rem = ms ∧ Undo S done S' ∧ Rep prog w B D' adr S' s'.heap ∧ Gr D D' s s' ∧ ∀ b, b = L ∨ b ∈ tmp → ¬ D' b) ⟨rfl, D, S, [], rfl, ⟨S.hp, by simp, rfl⟩, R₃, .no e3, ?_⟩ F₃ hT ?_ ?_
  · rintro b (rfl | hb)
    · exact hLD
    · exact R.new (hts b hb)
  · rintro y rem m s₄ s₅ v ⟨hm, D₄, S₄, done, hdone, ⟨hp₄, p₄, rfl⟩, R₄, g₄, ha⟩ ⟨tk, rfl⟩ F₅ e₅ hal
    have hy : y ∈ lv.lits := hperm.mem_iff.mp (by rw [← hdone]; simp)
    have hnd : lv.lits.Nodup := let ⟨_, _, _, _, _, _, x, _⟩ := g2; x
    have hmn : ms.Nodup := hperm.nodup_iff.mpr hnd
    have hyd : y ∉ done := fun z => by rw [← hdone, List.nodup_append] at hmn; exact hmn.2.2 y z y (by simp) rfl
    have hdl : done.length + 1 ≤ lv.lits.length := by rw [← hperm.length_eq, ← hdone]; simp
    have hLD₄ := ha L (.inl rfl)
    have R₅ : Rep prog w B D₄ adr { S with vs := done.foldl List.erase S.vs, vars := done.foldl (fun b l => b.set l.natAbs false) S.vars, hp := hp₄ } s₅.heap := R₄.eff e₅ fun b hb => hb.elim (fun z => z ▸ ha it (.inr IT.mem)) fun z => z ▸ hLD₄
    have g₅ : Gr D D₄ s s₅ := g₄.loc e₅ fun b hb => by rcases hb with rfl | rfl; exact hts _ IT.mem; exact hL
    have hm' : (fun z => if z = Str.ofString "lit" then some (Value.int y tk) else m z) "self" = some (.ref (adr .slf)) := by rw [← hm]; exact if_neg (by decide)
    have hsn : S.vs.Nodup := by obtain ⟨ov, _, _, _, _, _, _, _, x, _⟩ := R.o_vset; exact x
    have hyv : y ∈ done.foldl List.erase S.vs := (mem_foldl_erase hsn).mpr ⟨hin y hy, hyd⟩
    obtain ⟨ov, hv1, hv2⟩ := R₅.o_vset
    refine wpAny_execs_cons (wpAny_Expr (MethodCall_ (attr_name G F₅ kf.S hm' R₅.h_vset (by decide) rfl (getMethod_remove hv1 hv2 (callWith_method1 (args_cons (ld F₅ rfl (args_nil ?_))))))))
    refine call_remove hv1 hv2 (Nat.lt_of_le_of_lt (foldl_erase_len _ _) hvz) hyv fun h₆ o₆ sb₆ ho₆ x₆ => ?_
    have R₆ := R₅.u_vset sb₆ ho₆ x₆
    have hB₄ := R₅.off
    have F₆ : Fr B L h₆ _ := Fr_eff' F₅ (s' := ⟨h₆, s₅.gens, s₅.drawn, s₅.toks + 1 + 1, s₅.os⟩) (P := fun b => b = adr .vset) (sb_eff (tk := s₅.toks + 1 + 1) sb₆ rfl) (fun z => hLD₄ (z ▸ R₅.sub .vset trivial)) (fun b z => z ▸ R₅.sub .vset trivial) hB₄
    refine wpAny_execs_cons (wpAny_Expr (self_call (s := ⟨h₆, s₅.gens, s₅.drawn, s₅.toks + 1 + 1, s₅.os⟩) G F₆ kf.S kf.fVU R₆ hm' (by decide) (args_cons (ld F₆ rfl (args_nil ⟨(frOn F₆), ?_⟩)))))
    refine call_vsids_lit_unset G kf (frOn F₆) R₆ (rm.deeper.less (by omega)) (by show 6 ≤ S.ph; omega) (hlit y hy) hs (by show hp₄.length + 2 < 10000; rw [p₄.length_eq, List.length_append, both_len]; omega) fun s₇ D₇ hp₇ p₇ R₇ up₇ bk₇ e₇ => ?_
    have hP7 : ∀ b, b = adr .hp → D₄ b := fun b z => z ▸ R₆.sub .hp (by show 5 ≤ S.ph; omega)
    have F₇ := Fr_eff' F₆ e₇ (fun z => hLD₄ (hP7 _ z)) hP7 hB₄
    have R₇' := R₇
    obtain ⟨ob, hb1, kb, rfl⟩ := R₇.o_vars (by show 3 ≤ S.ph; omega)
    refine wpAny_execs_cons (wpAny_Assign_Subscript (wpAny_Constant_bool (attr_name G F₇ kf.S hm' (R₇.h_vars (by show 3 ≤ S.ph; omega)) (by decide) rfl (absN (s := { s₇ with toks := s₇.toks + 1 }) G kf F₇ rfl fun s₈ u e₈ f₈ => ?_))))
    have hyl := (hlit y hy).2
    refine list_set (by rw [e₈]; exact hb1) (by omega) (by rw [List.length_map, vars_len, hv]; omega) (by rw [List.length_map, vars_len, hv]; omega) fun h₉ k₉ sb₉ ho₉ => ?_
    rw [e₈] at sb₉
    have ev : ((done.foldl (fun b l => b.set l.natAbs false) S.vars).map Value.bool).set ((y.natAbs : Int).toNat) (.bool false) = ((done ++ [y]).foldl (fun b l => b.set l.natAbs false) S.vars).map Value.bool := by
      rw [List.foldl_append, Int.toNat_natCast]; simp [List.map_set]
    rw [ev] at ho₉
    have R₉ := R₇.u_vars (by show 3 ≤ S.ph; omega) sb₉ ho₉
    have live : S.live .vset ∧ S.live .hp ∧ S.live .vars := ⟨trivial, by show 5 ≤ S.ph; omega, by show 3 ≤ S.ph; omega⟩
    have e59 : Eff (fun b => b = adr .vset ∨ b = adr .hp ∨ b = adr .vars) s₅ { s₈ with heap := h₉ } := by
      have a1 : Eff (fun b => b = adr .vset ∨ b = adr .hp ∨ b = adr .vars) s₅ ⟨h₆, s₅.gens, s₅.drawn, s₅.toks + 1 + 1, s₅.os⟩ := sb_eff sb₆ (.inl rfl)
      have a2 := a1.same (e₇.sub (P' := fun b => b = adr .vset ∨ b = adr .hp ∨ b = adr .vars) fun b z => .inr (.inl z))
      refine a2.same ⟨fun b o n q => (sb₉.2 b fun z => n (.inr (.inr z))).trans q, f₈.gens, f₈.os⟩
    have hPD : ∀ b, (b = adr .vset ∨ b = adr .hp ∨ b = adr .vars) → D₄ b := by
      rintro b (rfl | rfl | rfl)
      · exact R₅.sub .vset live.1
      · exact R₅.sub .hp live.2.1
      · exact R₅.sub .vars live.2.2
    have F₉ := Fr_eff' F₅ e59 (fun z => hLD₄ (hPD _ z)) hPD hB₄
    have g59 : Gr D₄ D₇ s₅ { s₈ with heap := h₉ } := ⟨up₇, fun b hb => (bk₇ b hb).elim .inl fun q => ?_, e59.sub hPD⟩
    · refine wpAny_execs_nil ⟨_, _, F₉, ⟨hm', D₇, _, done ++ [y], by rw [List.append_assoc]; exact hdone, ⟨hp₇, ?_, ?_⟩, R₉, g₅.trans g59, ?_⟩, e59, ?_⟩
      · refine p₇.trans ?_
        rw [List.flatMap_append]
        refine (p₄.append_right _).trans ?_
        rw [List.append_assoc]; simp [both]
      · simp [List.foldl_append]
      · intro b hb
        exact g59.notin (ha b hb) (hb.elim (fun z => z ▸ Fr_live F₅) fun z => hal b z)
      · rintro b (hb | hb) z
        · exact ha b (.inr hb) (hPD b z)
        · rw [List.mem_singleton] at hb
          subst hb
          rcases z with z | z | z
          · have := R.inj _ _ hslot live.1 z; cases this
          · have := R.inj _ _ hslot live.2.1 z; cases this
          · have := R.inj _ _ hslot live.2.2 z; cases this
    · by_cases c : D₄ b
      · exact .inl c
      · refine .inr ?_
        cases z : s₅.heap.get? b with
        | none => rfl
        | some ob =>
          rw [show h₆.get? b = some ob from (sb₆.2 b fun y => c (y ▸ R₅.sub .vset live.1)).trans z] at q; cases q
  · rintro m s₄ s₅ ⟨hm, D₄, S₄, done, hdone, u₄, R₄, g₄, ha⟩ F₅ e₅
    rw [List.append_nil] at hdone; subst hdone
    have hLD₄ := ha L (.inl rfl)
    have R₅ := R₄.eff e₅ fun b z => z ▸ ha it (.inr IT.mem)
    obtain ⟨hp₄, p₄, rfl⟩ := u₄
    obtain ⟨ol, h1, k₂, rfl, _⟩ := R₅.o_lvs hph
    refine wpAny_execs_cons (wpAny_Expr_any (MethodCall_ (attr_name G F₅ kf.S hm (R₅.h_lvs hph) (by decide) rfl (meth_list (s := { s₅ with toks := s₅.toks + 1 }) h1 PySem.F.slot_list_pop PySem.F.type_list_pop ?_))))
    have h1' : s₅.heap.get? (adr .lvs) = some (listO ((r.map fun lv => Value.ref lv.ob) ++ [Value.ref lv.ob]).toArray k₂) := by
      rw [h1]; show some (listO (S.lvs.map _).toArray k₂) = _; rw [hlast, List.map_append]; rfl
    refine list_pop (s := { s₅ with toks := s₅.toks + 1 }) h1' (by rw [List.length_map, sizeLine_eq]; have : S.lvs.length = r.length + 1 := by rw [hlast]; simp
                                                                   omega) fun h₆ k₆ sb₆ ho₆ => ?_
    have R₆ := R₅.pop (r := r) hph hlast sb₆ ho₆
    refine wpAny_execs_nil (hq _ D₄ done _ hperm ⟨hp₄, p₄, rfl⟩ R₆ ?_)
    have g₅ : Gr D D₄ s s₅ := g₄.loc e₅ fun b hb => by subst hb; exact hts _ IT.mem
    exact g₅.trans (.of (P := fun b => b = adr .lvs) (sb_eff (tk := s₅.toks + 1) sb₆ rfl) fun b z => z ▸ R₅.sub .lvs hph)
end
end Dp
end
section
open PySem PySem.W PySem.Calls PyProof.Rows
namespace Dp
abbrev addI (ns : List Int) (n : Int) : List Int := if n ∈ ns then ns else ns ++ [n]
def SV.isV (S : SV) (x : Int) : Bool := S.vars.getD x.natAbs false
def SV.satC (S : SV) (cl : List Int) : Bool := cl.any fun l => decide (l ∈ S.vs)
def asg0 (S : SV) (r : List LV) (lv : LV) (lit : Int) : SV := { S with vs := addI S.vs lit, lvs := r ++ [{ lv with lits := addI lv.lits lit }], vars := S.vars.set lit.natAbs true }
def scanC (S : SV) (c neg : Int) : List Int → Option Int → Sum Int (Option Int)
  | [], o => .inr o
  | x :: r, o => if x = neg then scanC S c neg r o else if c ∈ S.sent x then scanC S c neg r (some x) else if S.isV x = false then .inl x else scanC S c neg r o
def moveC (S : SV) (c neg x : Int) : SV := { S with sent := updI (updI S.sent neg ((S.sent neg).erase c)) x (addI (updI S.sent neg ((S.sent neg).erase c) x) c) }
def stepC (lit : Int) (S : SV) (c : Int) : SV :=
  let cl := S.cls.getD c.toNat []
  if S.satC cl then S else match scanC S c (-lit) cl none with
    | .inl x => moveC S c (-lit) x
    | .inr none => S
    | .inr (some o) => { S with que := S.que ++ [o] }
variable {S : SV}
structure WF (S : SV) : Prop where
  n : S.n ≤ 20
  vars : S.vars.length = S.n + 1
  vs : ∀ l ∈ S.vs, IsLit S.n l
  vsN : S.vs.Nodup
  cls : S.cls.length ≤ 1000
  lits : ∀ cl ∈ S.cls, ∀ x ∈ cl, IsLit S.n x
  sent : ∀ l, IsLit S.n l → (S.sent l).Nodup ∧ ∀ c ∈ S.sent l, ∃ i : Nat, c = i ∧ i < S.cls.length
  lvs : S.lvs.length ≤ 100
  lv : ∀ lv ∈ S.lvs, lv.lits.Nodup ∧ ∀ x ∈ lv.lits, IsLit S.n x
theorem nodup_sub_le {l m : List Int} (hn : l.Nodup) (h : ∀ x ∈ l, x ∈ m) : l.length ≤ m.length := by
  induction l generalizing m with
  | nil => simp
  | cons x r ih =>
    rw [List.nodup_cons] at hn
    have hx := h x (by simp)
    have := ih (m := m.erase x) hn.2 fun y hy => (List.mem_erase_of_ne (fun z => hn.1 (by rw [← z]; exact hy))).mpr (h y (by simp [hy]))
    rw [List.length_erase_of_mem hx] at this
    have : 0 < m.length := List.length_pos_of_mem hx
    simp; omega
theorem litsOf_length (n : Nat) : (litsOf n).length = 2 * n := by
  induction n with
  | zero => rfl
  | succ n ih => simp [litsOf, ih]; omega
theorem lits_le {l : List Int} {n : Nat} (hn : l.Nodup) (h : ∀ x ∈ l, IsLit n x) : l.length ≤ 2 * n := by
  rw [← litsOf_length]; exact nodup_sub_le hn fun x hx => mem_litsOf.mpr (h x hx)
theorem WF.vsz (W : WF S) : S.vs.length ≤ 40 := by have := lits_le W.vsN W.vs; have := W.n; omega
theorem WF.lvz (W : WF S) {lv : LV} (h : lv ∈ S.lvs) : lv.lits.length ≤ 40 := by have := lits_le (W.lv lv h).1 (W.lv lv h).2; have := W.n; omega
theorem nodup_addI {l : List Int} (h : l.Nodup) (x : Int) : (addI l x).Nodup := by
  unfold addI; split
  · exact h
  · rename_i n; rw [List.nodup_append]; exact ⟨h, by simp, fun a ha b hb z => by rw [List.mem_singleton] at hb; subst hb; exact n (z ▸ ha)⟩
theorem mem_addI {l : List Int} {x y : Int} : y ∈ addI l x ↔ y ∈ l ∨ y = x := by
  unfold addI; split
  · exact ⟨.inl, fun h => h.elim id fun z => z ▸ ‹_›⟩
  · simp
theorem WF.asg0 (W : WF S) {r : List LV} {lv : LV} {lit : Int} (hlast : S.lvs = r ++ [lv]) (hl : IsLit S.n lit) : WF (asg0 S r lv lit) := by
  have hlv := W.lv lv (by rw [hlast]; simp)
  refine ⟨W.n, by show (S.vars.set _ _).length = _; rw [List.length_set]; exact W.vars, fun l h => (mem_addI.mp h).elim (W.vs l) fun z => z ▸ hl, nodup_addI W.vsN _, W.cls, W.lits, W.sent, ?_, fun lv' h => ?_⟩
  · have := W.lvs; rw [hlast] at this; simpa [Dp.asg0] using this
  · rcases List.mem_append.mp h with q | q
    · exact W.lv lv' (by rw [hlast]; exact List.mem_append_left _ q)
    · rw [List.mem_singleton] at q; subst q
      exact ⟨nodup_addI hlv.1 _, fun x h => (mem_addI.mp h).elim (hlv.2 x) fun z => z ▸ hl⟩
theorem scanC_spec {S : SV} {c neg : Int} {l : List Int} {o : Option Int} : match scanC S c neg l o with
    | .inl x => x ∈ l ∧ x ≠ neg ∧ c ∉ S.sent x ∧ S.isV x = false
    | .inr o' => (o' = o ∨ ∃ x ∈ l, o' = some x ∧ x ≠ neg ∧ c ∈ S.sent x) ∧ ∀ x ∈ l, x ≠ neg → c ∉ S.sent x → S.isV x = true := by
  induction l generalizing o with
  | nil => exact ⟨.inl rfl, fun x h => (nomatch h)⟩
  | cons x r ih =>
    rw [scanC]
    by_cases h1 : x = neg
    · rw [if_pos h1]
      have := ih (o := o)
      split <;> rename_i q <;> rw [q] at this
      · exact ⟨.tail _ this.1, this.2⟩
      · refine ⟨this.1.imp id fun ⟨y, a, b⟩ => ⟨y, .tail _ a, b⟩, fun y hy => ?_⟩
        rcases List.mem_cons.mp hy with rfl | hy
        · intro z; exact absurd h1 z
        · exact this.2 y hy
    · rw [if_neg h1]
      by_cases h2 : c ∈ S.sent x
      · rw [if_pos h2]
        have := ih (o := some x)
        split <;> rename_i q <;> rw [q] at this
        · exact ⟨.tail _ this.1, this.2⟩
        · refine ⟨.inr (this.1.elim (fun z => ⟨x, by simp, z, h1, h2⟩) fun ⟨y, a, b⟩ => ⟨y, .tail _ a, b⟩), fun y hy => ?_⟩
          rcases List.mem_cons.mp hy with rfl | hy
          · intro _ z; exact absurd h2 z
          · exact this.2 y hy
      · rw [if_neg h2]
        by_cases h3 : S.isV x = false
        · rw [if_pos h3]; exact ⟨by simp, h1, h2, h3⟩
        · rw [if_neg h3]
          have := ih (o := o)
          split <;> rename_i q <;> rw [q] at this
          · exact ⟨.tail _ this.1, this.2⟩
          · refine ⟨this.1.imp id fun ⟨y, a, b⟩ => ⟨y, .tail _ a, b⟩, fun y hy => ?_⟩
            rcases List.mem_cons.mp hy with rfl | hy
            · intro _ _; rwa [Bool.not_eq_false] at h3
            · exact this.2 y hy
theorem moveC_sent {S : SV} {c neg x l : Int} (hx : x ≠ neg) : (moveC S c neg x).sent l = if l = x then addI (S.sent x) c else if l = neg then (S.sent neg).erase c else S.sent l := by
  unfold moveC updI
  dsimp only
  by_cases e : l = x
  · rw [if_pos e, if_pos e, if_neg hx]
  · rw [if_neg e, if_neg e]
theorem WF.stepC (W : WF S) {lit c : Int} (hl : IsLit S.n lit) (hc : c ∈ S.sent (-lit)) : WF (stepC lit S c) := by
  unfold Dp.stepC
  have hneg := W.sent (-lit) ⟨by have := hl.1; omega, by have := hl.2; omega⟩
  obtain ⟨i, rfl, hi⟩ := hneg.2 c hc
  dsimp only
  split
  · exact W
  split
  · rename_i x q
    have := scanC_spec (S := S) (c := i) (neg := -lit) (l := S.cls.getD (i : Int).toNat []) (o := none)
    rw [q] at this
    obtain ⟨a1, a2, a3, a4⟩ := this
    refine ⟨W.n, W.vars, W.vs, W.vsN, W.cls, W.lits, fun l h => ?_, W.lvs, W.lv⟩
    rw [moveC_sent a2]
    by_cases e1 : l = x
    · subst e1
      rw [if_pos rfl]
      exact ⟨nodup_addI (W.sent l h).1 _, fun c hc => (mem_addI.mp hc).elim ((W.sent l h).2 c) fun z => ⟨i, z, hi⟩⟩
    · rw [if_neg e1]
      by_cases e2 : l = -lit
      · rw [if_pos e2]
        exact ⟨hneg.1.erase _, fun c hc => hneg.2 c (List.mem_of_mem_erase hc)⟩
      · rw [if_neg e2]; exact W.sent l h
  · exact W
  · exact ⟨W.n, W.vars, W.vs, W.vsN, W.cls, W.lits, W.sent, W.lvs, W.lv⟩
theorem nodup_ints_le {l : List Int} {k : Nat} (hn : l.Nodup) (h : ∀ c ∈ l, ∃ i : Nat, c = i ∧ i < k) : l.length ≤ k := by
  induction k generalizing l with
  | zero => cases l with
    | nil => simp
    | cons x r => obtain ⟨i, _, z⟩ := h x (by simp); omega
  | succ k ih =>
    have h1 := ih (l := l.erase (k : Int)) (hn.erase _) fun c hc => by
      obtain ⟨i, a, b⟩ := h c (List.mem_of_mem_erase hc)
      refine ⟨i, a, ?_⟩
      have : c ≠ (k : Int) := fun z => by rw [z] at hc; exact (List.Nodup.mem_erase_iff hn).mp hc |>.1 rfl
      omega
    have := List.length_erase (a := (k : Int)) (l := l)
    split at this <;> omega
theorem IsLit.neg {n : Nat} {l : Int} (h : IsLit n l) : IsLit n (-l) := ⟨by have := h.1; omega, by have := h.2; omega⟩
theorem WF.small (W : WF S) {l : Int} (hl : IsLit S.n l) : (S.sent l).length + 1 < scanBound := by
  have := nodup_ints_le (W.sent l hl).1 (W.sent l hl).2
  have h2 := W.cls
  show _ < 4096
  omega
section
variable {prog : Program} {w : World} {K : Frag} {B : Heap} {A : Around} {E : Value → Shared → Prop} {s s' s₁ s₂ : Shared} {L a l x C : Addr} {m : Str → Option Value} {adr : Role → Addr} {D D₁ D₂ P : Addr → Prop} {S S' : SV} {cn : Str} {cs : Scope} {cd : Value} {h h' : Heap}
theorem Eff_fresh {s s' : Shared} (e : Eff P s s') {b : Addr} (hb : s'.heap.get? b = none) (n : ¬ P b) : s.heap.get? b = none := by
  cases q : s.heap.get? b with
  | none => rfl
  | some ob => rw [e.keep b ob n q] at hb; cases hb
def stAt (l : List Stmt) (i : Nat) : Stmt := l.getD i (.Pass default)
def forBody : Stmt → List Stmt | .For _ _ b .. => b | _ => []
def alBody : List Stmt := forBody (stAt (dBody (meth "_assign_literal")) 5)
abbrev alEnv (L : Addr) : Env := envOf ("SATSolver." ++ "_assign_literal") (dScope (meth "_assign_literal")) L 122 (.ref 121)
theorem al_turn {lit c : Int} {t tc : Tok} {i : Nat} {cl : List Int} {Q : Flow → Shared → Prop} (G : Bas w K B) (kf : KF K) (F : Fr B L s.heap m) (R : Rep prog w B D adr S s.heap) (W : WF S) (rm : Rm A 2) (hph : 8 ≤ S.ph) (hLD : ¬ D L) (hvz : S.vs.length < scanBound)
    (hm : m "self" = some (.ref (adr .slf))) (hlit : m "lit" = some (.int lit t)) (hml : IsLit S.n lit) (hmc : m "cls" = some (.int c tc)) (hc : c = i) (hcl : S.cls[i]? = some cl) (hmem : c ∈ S.sent (-lit)) (hqz : S.que.length < 10000)
    (hq : ∀ s' m', Fr B L s'.heap m' → m' "self" = some (.ref (adr .slf)) → m' "lit" = some (.int lit t) → Rep prog w B D adr (stepC lit S c) s'.heap → Eff (fun b => D b ∨ b = L) s s' → Q .next s') :
    wpAny (model prog w) A (execs alBody (alEnv L)) Q E s := by
  subst hc
  refine wpAny_execs_cons (wpAny_If (wpAny_isTrue_Not (wpAny_isTrue_value (self_call G F kf.S kf.fCS R hm (by decide) (args_cons (ld F hmc (args_nil ⟨(frOn F), ?_⟩)))))))
  refine call_clause_sat G kf (frOn F) R (rm.less (by omega)) (by omega) hcl hvz (by have := W.cls; rw [sizeLine_eq]; omega) fun s₁ e₁ => ?_
  have R₁ : Rep prog w B D adr S s₁.heap := R.keep fun b o q => e₁.all q
  have F₁ := Fr_no F e₁
  have hget : S.cls.getD ((i : Int).toNat) [] = cl := by rw [Int.toNat_natCast, List.getD_eq_getElem?_getD, hcl]; rfl
  refine wpAny_truthy_bool ?_
  by_cases hsat : S.satC cl = true
  · rw [if_neg (by show ¬ (!(S.satC cl)) = true; rw [hsat]; decide)]
    have hst : stepC lit S i = S := by unfold stepC; rw [hget]; simp [hsat]
    refine wpAny_execs_nil (wpAny_execs_nil (hq s₁ m F₁ hm hlit (by rw [hst]; exact R₁) e₁.no))
  rw [if_pos (by show (!(S.satC cl)) = true; rw [Bool.not_eq_true] at hsat; rw [hsat]; rfl)]
  refine wpAny_execs_cons (asn (wpAny_Constant_none ⟨_, F₁, fun s₂ F₂ e₂ => ?_⟩))
  have e2 : Eff (fun b => b = L) s s₂ := e₁.no.same e₂
  have R₂ : Rep prog w B D adr S s₂.heap := R.eff e2 fun b z => z ▸ hLD
  obtain ⟨as, k, l, vs, h1, h2, h3, h4, h5, h6, h7⟩ := R₂.clause (by omega) hcl
  refine wpAny_execs_cons (wpAny_For (Subscript_ (attr_name G F₂ kf.S (by rw [updS_ne (by decide)]; exact hm) (R₂.h_cls (by omega)) (by decide) rfl (ld F₂ (by rw [updS_ne (by decide)]; exact hmc) (itemList (vs := as.map Value.ref) (listO_is h1) (by rw [List.getElem?_map, h2]; rfl) (by rw [List.length_map, h3, sizeLine_eq]; have := W.cls; omega) ?_)))))
  refine iter_list h6 (ints_f2 h7) fun s₃ it T e₃ hit IT hT => ?_
  have e3 : Eff (fun b => b = L) s s₃ := e2.same (Eff.no ⟨fun b o n q => e₃.keep b o n q, e₃.gens, e₃.os⟩)
  have hitL : it ≠ L := fun z => by subst z; obtain ⟨o, q⟩ := Fr_live F₂; rw [q] at hit; cases hit
  have hits : s.heap.get? it = none := Eff_fresh e2 hit hitL
  have hlL : l ≠ L := fun z => hLD (z ▸ h4)
  have hunsat : S.satC cl = false := by rwa [Bool.not_eq_true] at hsat
  refine loop_iter (prog := prog) (w := w) (B := B) rm.hh IT (by simpa using Ne.symm hitL) (by simpa using Ne.symm hlL) (fun b hb => by rw [List.mem_singleton] at hb; subst hb; exact (frOn F).none hits)
    (fun rem m' s' => ∃ o : Option Int, scanC S i (-lit) cl none = scanC S i (-lit) rem o ∧ (∀ x ∈ rem, IsLit S.n x) ∧ (∀ x, o = some x → x ≠ 0) ∧ m' "self" = some (.ref (adr .slf)) ∧ m' "lit" = some (.int lit t) ∧ m' "cls" = some (.int i tc) ∧ (match o with | none => m' "other_sentinel" = some .none | some x => ∃ tk, m' "other_sentinel" = some (.int x tk)) ∧ Rep prog w B D adr S s'.heap ∧ Eff (fun b => b = L) s s')
    ⟨none, rfl, W.lits cl (List.mem_of_getElem? hcl), fun x z => (nomatch z), by rw [updS_ne (by decide)]; exact hm, by rw [updS_ne (by decide)]; exact hlit, by rw [updS_ne (by decide)]; exact hmc, updS_self, R₂.keep fun b o q => e₃.all q, e3⟩ (Fr_no (s := { s₂ with toks := s₂.toks + 1 }) F₂ e₃) hT ?_ ?_
  · rintro y rem m₄ s₄ s₅ v ⟨o, hscan, hrem, ho0, hm4, hlit4, hmc4, hos, R₄, e4⟩ ⟨tk, rfl⟩ F₅ e₅ _
    have e5 : Eff (fun b => b = L) s s₅ := e4.trans e₅ fun b hb => hb.elim (fun z => .inr (z ▸ hits)) .inl
    have R₅ : Rep prog w B D adr S s₅.heap := R.eff e5 fun b z => z ▸ hLD
    have nm : ∀ {x : Str}, x ≠ "newlit" → (fun z => if z = Str.ofString "newlit" then some (Value.int y tk) else m₄ z) x = m₄ x := fun h => if_neg h
    have hm5 := (nm (x := "self") (by decide)).trans hm4
    have hlit5 := (nm (x := "lit") (by decide)).trans hlit4
    have hmc5 := (nm (x := "cls") (by decide)).trans hmc4
    have hyl : IsLit S.n y := hrem y (by simp)
    have hrem' : ∀ x ∈ rem, IsLit S.n x := fun x hx => hrem x (by simp [hx])
    refine wpAny_execs_cons (wpAny_If (wpAny_isTrue_Compare1 (ld F₅ rfl (UnaryOp_ (ld F₅ hlit5 (P.neg_int (P.ne_int (wpAny_truthy_bool ?_))))))))
    have keep : ∀ {s₆ : Shared}, Eff No s₅ s₆ → s₆.heap = s₅.heap → True := fun _ _ => trivial
    by_cases hneg : y = -lit
    · rw [if_neg (by simp [hneg])]
      rw [scanC, if_pos hneg] at hscan
      refine wpAny_execs_nil (wpAny_execs_nil ⟨_, No, F₅, ⟨o, hscan, hrem', ho0, hm5, hlit5, hmc5, ?_, R₅, e5.same (Eff.toks fun b o _ q => q)⟩, Eff.toks fun b o _ q => q, fun b _ z => z⟩)
      cases o with
      | none => exact (nm (by decide)).trans hos
      | some x => obtain ⟨tk', q⟩ := hos; exact ⟨tk', (nm (by decide)).trans q⟩
    rw [if_pos (by simpa using hneg)]
    rw [scanC, if_neg hneg] at hscan
    refine wpAny_execs_cons (wpAny_If (wpAny_isTrue_value (self_call (s := { s₅ with toks := s₅.toks + 1 }) G F₅ kf.S kf.fIS R₅ hm5 (by decide) (args_cons (ld F₅ rfl (args_cons (ld F₅ hmc5 (args_nil ⟨(frOn F₅), ?_⟩))))))))
    refine call_is_sentinel (s := { s₅ with toks := s₅.toks + 1 }) G kf (frOn F₅) R₅ (rm.less (by omega)) (by omega) hyl (by have := W.small hyl; omega) fun s₆ e₆ => ?_
    have e6 : Eff (fun b => b = L) s s₆ := e5.same ⟨fun b o n q => e₆.keep b o (fun z => z) q, e₆.gens, e₆.os⟩
    have e56 : Eff No s₅ s₆ := ⟨fun b o n q => e₆.keep b o (fun z => z) q, e₆.gens, e₆.os⟩
    have R₆ : Rep prog w B D adr S s₆.heap := R₅.keep fun b o q => e₆.all q
    have F₆ := Fr_no F₅ e56
    refine wpAny_truthy_bool ?_
    by_cases hs : (i : Int) ∈ S.sent y
    · rw [if_pos (by simp [hs])]
      rw [if_pos hs] at hscan
      refine wpAny_execs_cons (asn (ld F₆ rfl ⟨_, F₆, fun s₇ F₇ e₇ => ?_⟩))
      refine wpAny_execs_nil (wpAny_execs_nil (wpAny_execs_nil ⟨_, (fun b => b = L), F₇, ⟨some y, hscan, hrem', fun x z => by injection z with z; rw [← z]; exact hyl.1, by rw [updS_ne (by decide)]; exact hm5, by rw [updS_ne (by decide)]; exact hlit5, by rw [updS_ne (by decide)]; exact hmc5, ⟨tk, updS_self⟩, R₆.eff e₇ fun b z => z ▸ hLD, e6.same e₇⟩, e56.no.same e₇, ?_⟩))
      intro b hb z
      subst z
      rcases hb with hb | hb
      · exact hitL (List.mem_singleton.mp hb).symm
      · exact hlL (List.mem_singleton.mp hb).symm
    rw [if_neg (by simp [hs])]
    rw [if_neg hs] at hscan
    obtain ⟨ob, hb1, kb, rfl⟩ := R₆.o_vars (by omega)
    have hyi : S.vars[y.natAbs]? = some (S.isV y) := by
      have : y.natAbs < S.vars.length := by rw [W.vars]; have := hyl.2; omega
      unfold SV.isV; rw [List.getD_eq_getElem?_getD, List.getElem?_eq_getElem this]; rfl
    refine wpAny_execs_cons (wpAny_If (wpAny_isTrue_Not (wpAny_isTrue_value (Subscript_ (attr_name G F₆ kf.S hm5 (R₆.h_vars (by omega)) (by decide) rfl (absN (s := { s₆ with toks := s₆.toks + 1 }) G kf F₆ rfl fun s₇ u e₇ f₇ => itemList (k := y.natAbs) (v := .bool (S.isV y)) (vs := S.vars.map Value.bool) (listO_is (by rw [e₇]; exact hb1)) (by rw [List.getElem?_map, hyi]; rfl) (by rw [List.length_map, W.vars, sizeLine_eq]; have := W.n; omega) (wpAny_truthy_bool ?_)))))))
    have e57 : Eff No s₅ s₇ := ⟨fun b o n q => f₇.keep b o n (e56.keep b o n q), f₇.gens.trans e56.gens, f₇.os.trans e56.os⟩
    have R₇ : Rep prog w B D adr S s₇.heap := R₅.keep fun b o q => e57.all q
    have F₇ := Fr_no F₅ e57
    by_cases hv : S.isV y = false
    · rw [hv]
      rw [if_pos hv] at hscan
      have hnl : IsLit S.n (-lit) := hml.neg
      have hyn : y ≠ -lit := hneg
      obtain ⟨od, d1, d2⟩ := R₇.o_sdct (by omega)
      obtain ⟨o1, a1, a2⟩ := R₇.o_sent (by omega) hnl
      rw [if_pos (by rfl)]
      refine wpAny_execs_cons (wpAny_Expr (MethodCall_ (Subscript_ (attr_name G F₇ kf.S hm5 (R₇.h_sdct (by omega)) (by decide) rfl (UnaryOp_ (ld F₇ hlit5 (P.neg_int (itemMap d1 d2 (mem_litsOf.mpr hnl) fun v hv => ?_))))))))
      subst hv
      refine getMethod_remove a1 a2 (callWith_method1 (args_cons (ld F₇ hmc5 (args_nil ?_))))
      refine call_remove a1 a2 (by have := W.small hnl; omega) hmem fun h₈ o₈ sb₈ ho₈ x₈ => ?_
      have lsent : ∀ {l : Int}, IsLit S.n l → S.live (.sent l) := fun h => ⟨by omega, h⟩
      have hB := R.off
      have e78 : Eff D s₇ ⟨h₈, s₇.gens, s₇.drawn, s₇.toks + 1 + 1 + 1 + 1, s₇.os⟩ := sb_eff (tk := s₇.toks + 1 + 1 + 1 + 1) sb₈ (R₇.sub _ (lsent hnl))
      have R₈ := R₇.u_sent (by omega) hnl sb₈ ho₈ x₈
      have F₈ := Fr_eff' F₇ e78 hLD (fun b z => z) hB
      obtain ⟨od', d1', d2'⟩ := R₈.o_sdct (by show 1 ≤ S.ph; omega)
      obtain ⟨o1', a1', a2'⟩ := R₈.o_sent (by show 1 ≤ S.ph; omega) (l := y) hyl
      refine wpAny_execs_cons (wpAny_Expr (MethodCall_ (Subscript_ (attr_name (s := ⟨h₈, s₇.gens, s₇.drawn, s₇.toks + 1 + 1 + 1 + 1, s₇.os⟩) G F₈ kf.S hm5 (R₈.h_sdct (by show 1 ≤ S.ph; omega)) (by decide) rfl (ld F₈ rfl (itemMap d1' d2' (mem_litsOf.mpr hyl) fun v hv => ?_))))))
      subst hv
      refine getMethod_add a1' a2' (callWith_method1 (args_cons (ld F₈ hmc5 (args_nil ?_))))
      refine call_add a1' a2' (by show (updI S.sent (-lit) ((S.sent (-lit)).erase ↑i) y).length + 1 < scanBound; unfold updI; rw [if_neg hyn]; exact W.small hyl) fun h₉ o₉ sb₉ ho₉ x₉ => ?_
      have R₉ := R₈.u_sent (by show 1 ≤ S.ph; omega) hyl sb₉ ho₉ x₉
      have e89 : Eff D s₇ ⟨h₉, s₇.gens, s₇.drawn, s₇.toks + 1 + 1 + 1 + 1 + 1 + 1 + 1, s₇.os⟩ := e78.same (sb_eff (s := ⟨h₈, s₇.gens, s₇.drawn, s₇.toks + 1 + 1 + 1 + 1, s₇.os⟩) (tk := s₇.toks + 1 + 1 + 1 + 1 + 1 + 1 + 1) sb₉ (R₇.sub _ (lsent hyl)))
      have F₉ := Fr_eff' F₇ e89 hLD (fun b z => z) hB
      refine wpAny_execs_cons (asn (wpAny_Constant_none ⟨_, F₉, fun s₁₀ F₁₀ e₁₀ => ?_⟩))
      have R₁₀ := R₉.eff e₁₀ fun b z => z ▸ hLD
      have hst : stepC lit S i = moveC S i (-lit) y := by unfold stepC; simp only [hget, hunsat, hscan]; rfl
      have efin : Eff (fun b => D b ∨ b = L) s s₁₀ := by
        have a1 : Eff (fun b => D b ∨ b = L) s s₇ := e5.sub (fun b z => .inr z) |>.same (e57.no)
        exact (a1.same (e89.sub fun b z => .inl z)).same (e₁₀.sub fun b z => .inr z)
      refine wpAny_execs_cons (wpAny_Break ?_)
      refine wpAny_execs_cons (wpAny_If (wpAny_isTrue_value (ld F₁₀ rfl (truthy_none ?_))))
      rw [if_neg (by decide)]
      refine wpAny_execs_nil (wpAny_execs_nil (wpAny_execs_nil (hq s₁₀ _ F₁₀ (by rw [updS_ne (by decide)]; exact hm5) (by rw [updS_ne (by decide)]; exact hlit5) (by rw [hst]; exact R₁₀) efin)))
    · rw [Bool.not_eq_false] at hv
      rw [if_neg (by rw [hv]; decide)] at hscan
      rw [hv, if_neg (by decide)]
      refine wpAny_execs_nil (wpAny_execs_nil (wpAny_execs_nil (wpAny_execs_nil ⟨_, No, F₇, ⟨o, hscan, hrem', ho0, hm5, hlit5, hmc5, ?_, R₇, e5.same e57.no⟩, e57, fun b _ z => z⟩)))
      cases o with
      | none => exact (nm (by decide)).trans hos
      | some x => obtain ⟨tk', q⟩ := hos; exact ⟨tk', (nm (by decide)).trans q⟩
  · rintro m₄ s₄ s₅ ⟨o, hscan, -, ho0, hm4, hlit4, hmc4, hos, R₄, e4⟩ F₅ e₅
    have e5 : Eff (fun b => b = L) s s₅ := e4.trans e₅ fun b hb => .inr (hb ▸ hits)
    have R₅ : Rep prog w B D adr S s₅.heap := R.eff e5 fun b z => z ▸ hLD
    rw [scanC] at hscan
    cases o with
    | none =>
      have hst : stepC lit S i = S := by unfold stepC; simp only [hget, hunsat, hscan]; rfl
      refine wpAny_execs_cons (wpAny_If (wpAny_isTrue_value (ld F₅ hos (truthy_none ?_))))
      rw [if_neg (by decide)]
      exact wpAny_execs_nil (wpAny_execs_nil (wpAny_execs_nil (hq s₅ _ F₅ hm4 hlit4 (by rw [hst]; exact R₅) (e5.sub fun b z => .inr z))))
    | some x =>
      obtain ⟨tk, hos⟩ := hos
      have hst : stepC lit S i = { S with que := S.que ++ [x] } := by unfold stepC; simp only [hget, hunsat, hscan]; rfl
      refine wpAny_execs_cons (wpAny_If (wpAny_isTrue_value (ld F₅ hos (P.truthy_int ?_))))
      rw [if_pos (by simpa using ho0 x rfl)]
      obtain ⟨oq, q1, vs, kq, rfl, qi⟩ := R₅.o_que
      refine wpAny_execs_cons (wpAny_Expr (MethodCall_ (attr_name G F₅ kf.S hm4 R₅.h_que (by decide) rfl (meth_list (s := { s₅ with toks := s₅.toks + 1 }) q1 PySem.F.slot_list_append PySem.F.type_list_append (callWith_method1 (args_cons (ld F₅ hos (args_nil ?_))))))))
      refine list_push (s := { s₅ with toks := s₅.toks + 1 }) q1 (by rw [sizeLine_eq, List.size_toArray, qi.length]; omega) fun h₆ k₆ sb₆ ho₆ => ?_
      have R₆ := R₅.u_que sb₆ ho₆ (ns := S.que ++ [x]) ⟨vs ++ [.int x tk], k₆, by simp, qi.append (.cons x tk .nil)⟩
      have e6 : Eff D s₅ ⟨h₆, s₅.gens, s₅.drawn, s₅.toks + 1, s₅.os⟩ := sb_eff (tk := s₅.toks + 1) sb₆ (R₅.sub .que trivial)
      exact wpAny_execs_nil (wpAny_execs_nil (wpAny_execs_nil (hq _ _ (Fr_eff' F₅ e6 hLD (fun b z => z) R.off) hm4 hlit4 (by rw [hst]; exact R₆) ((e5.sub fun b z => .inr z).same (e6.sub fun b z => .inl z)))))
end
end Dp
end
section
open PySem PySem.W PySem.Calls PyProof.Rows
namespace Dp
section
variable {prog : Program} {w : World} {K : Frag} {B : Heap} {A : Around} {E : Value → Shared → Prop} {s s' s₁ s₂ : Shared} {L a l x C : Addr} {m : Str → Option Value} {adr : Role → Addr} {D D₁ D₂ P : Addr → Prop} {S S' : SV} {cn : Str} {cs : Scope} {cd : Value} {h h' : Heap}
theorem call_lit_assigned {lit : Int} {t : Tok} {Rr : Result → Shared → Prop} (G : Bas w K B) (kf : KF K) (o : On B s.heap) (rm : Rm A 0) (hq : ∀ s', Eff No s s' → Rr (.ok (.ret .none)) s') :
    codeAny (model prog w) A (.call (.ref 171) ⟨[.ref (adr .slf), .int lit t], []⟩) Rr s := by
  obtain ⟨pm, ho⟩ := kf.fVA.fn.at_
  refine call_fn (binds := [("self", .ref (adr .slf)), ("lit", .int lit t)]) G o ho kf.fVA.fn.code rm.room (BindsTo.of_eq rfl) (locs rfl) (fun h₁ L F hL hk => ?_)
  exact wpAny_execs_cons (wpAny_Pass (wpAny_execs_nil (hq _ ⟨fun b o _ e => hk b o e, rfl, rfl⟩)))
theorem stepC_cls {S : SV} {lit c : Int} : (stepC lit S c).cls = S.cls ∧ (stepC lit S c).n = S.n ∧ (stepC lit S c).ph = S.ph ∧ (stepC lit S c).vs = S.vs ∧ (stepC lit S c).vars = S.vars ∧ (stepC lit S c).lvs = S.lvs := by
  unfold stepC; dsimp only; split
  · simp
  · split <;> simp [moveC]
theorem stepC_que {S : SV} {lit c : Int} : (stepC lit S c).que.length ≤ S.que.length + 1 := by
  unfold stepC; dsimp only; split
  · omega
  · split <;> simp [moveC]
theorem stepC_keep {S : SV} {lit c c' : Int} (hne : c' ≠ c) (h : c' ∈ S.sent (-lit)) : c' ∈ (stepC lit S c).sent (-lit) := by
  unfold stepC; dsimp only; split
  · exact h
  · split
    · rename_i x q
      have := scanC_spec (S := S) (c := c) (neg := -lit) (l := S.cls.getD c.toNat []) (o := none)
      rw [q] at this
      rw [moveC_sent this.2.1, if_neg fun z => this.2.1 z.symm, if_pos rfl]
      exact (List.mem_erase_of_ne hne).mpr h
    · exact h
    · exact h
theorem call_assign {lit : Int} {t : Tok} {lv : LV} {r : List LV} {Rr : Result → Shared → Prop} (G : Bas w K B) (kf : KF K) (o : On B s.heap) (R : Rep prog w B D adr S s.heap) (W : WF S) (rm : Rm A 3) (hph : 8 ≤ S.ph) (hlast : S.lvs = r ++ [lv]) (hl : IsLit S.n lit) (hqz : S.que.length < 5000)
    (hq : ∀ s' (ord : List Int), ord.Perm (S.sent (-lit)) → Rep prog w B D adr (ord.foldl (stepC lit) (asg0 S r lv lit)) s'.heap → Eff D s s' → Rr (.ok (.ret .none)) s') :
    codeAny (model prog w) A (.call (.ref 122) ⟨[.ref (adr .slf), .int lit t], []⟩) Rr s := by
  obtain ⟨pm, ho⟩ := kf.fAL.fn.at_
  refine call_fn (binds := [("self", .ref (adr .slf)), ("lit", .int lit t)]) G o ho kf.fAL.fn.code rm.room (BindsTo.of_eq rfl) (locs rfl) (fun h₁ L F hL hk => ?_)
  have R₁ := R.keep hk
  have hLD : ¬ D L := R.new hL
  have hB := R.off
  have hlen : S.lvs.length = r.length + 1 := by rw [hlast]; simp
  have hlvm : lv ∈ S.lvs := by rw [hlast]; simp
  have hlt : IsLit S.n (-lit) := hl.neg
  obtain ⟨o1, a1, a2⟩ := R₁.o_vset
  refine wpAny_execs_cons (wpAny_Expr (MethodCall_ (attr_name G F kf.S rfl R₁.h_vset (by decide) rfl (getMethod_add a1 a2 (callWith_method1 (args_cons (ld F rfl (args_nil ?_))))))))
  refine call_add a1 a2 (by have := W.vsz; show _ < 4096; omega) fun h₂ o₂ sb₂ ho₂ x₂ => ?_
  have R₂ := R₁.u_vset sb₂ ho₂ x₂
  have e2 : Eff D s ⟨h₂, s.gens, s.drawn, s.toks + 2 + 1 + 1, s.os⟩ := ⟨fun b o n q => (sb₂.2 b fun z => n (z ▸ R.sub .vset trivial)).trans (hk b o q), rfl, rfl⟩
  have F₂ := Fr_eff' (s := ⟨h₁, s.gens, s.drawn, s.toks + 2, s.os⟩) F (s' := ⟨h₂, s.gens, s.drawn, s.toks + 2 + 1 + 1, s.os⟩) (P := D) (sb_eff (s := ⟨h₁, s.gens, s.drawn, s.toks + 2, s.os⟩) (tk := s.toks + 2 + 1 + 1) sb₂ (R.sub .vset trivial)) hLD (fun b z => z) hB
  refine wpAny_execs_cons (wpAny_Expr (MethodCall_ (Attribute_any_ (cur_level (s := ⟨h₂, s.gens, s.drawn, s.toks + 2 + 1 + 1, s.os⟩) G kf F₂ R₂ rfl hph hlast W.lvs (rm.deeper (d := 2)) fun s₃ e₃ => ?_))))
  have R₃ := R₂.keep fun b o q => e₃.all q
  have F₃ := Fr_no F₂ e₃
  obtain ⟨ol, h1, k, rfl, hlv⟩ := R₃.o_lvs hph
  obtain ⟨z1, es, k', f, tt, z2, hd, hdec, hfl, hset⟩ := hlv r.length lv (lvs_last hlast)
  obtain ⟨oset, g1, g2⟩ := R₃.o_lset hph (lvs_last hlast)
  refine getAttr_has G F₃ kf.Lv ⟨lv.dc, es, k', ⟨z1.2.2, rfl, rfl, z2.2.2⟩, by rw [hd]; exact congrArg some hset⟩ (by decide) rfl ?_
  refine getMethod_add g1 g2 (callWith_method1 (args_cons (ld (s := { s₃ with toks := s₃.toks + 1 }) F₃ rfl (args_nil ?_))))
  refine call_add g1 g2 (by have := W.lvz hlvm; show _ < 4096; omega) fun h₄ o₄ sb₄ ho₄ x₄ => ?_
  have R₄ := R₃.u_lset hph hlast sb₄ ho₄ x₄
  have hslot : S.live (.lset r.length) := ⟨hph, by omega⟩
  have e3 : Eff D s s₃ := e2.same e₃.no
  have e4 : Eff D s ⟨h₄, s₃.gens, s₃.drawn, s₃.toks + 1 + 1, s₃.os⟩ := e3.same (sb_eff (tk := s₃.toks + 1 + 1) sb₄ (R.sub _ hslot))
  have F₄ := Fr_eff' F₃ (s' := ⟨h₄, s₃.gens, s₃.drawn, s₃.toks + 1 + 1, s₃.os⟩) (P := D) (sb_eff (tk := s₃.toks + 1 + 1) sb₄ (R.sub _ hslot)) hLD (fun b z => z) hB
  obtain ⟨ob, hb1, kb, rfl⟩ := R₄.o_vars (by show 3 ≤ S.ph; omega)
  refine wpAny_execs_cons (wpAny_Assign_Subscript (wpAny_Constant_bool (attr_name (s := ⟨h₄, s₃.gens, s₃.drawn, s₃.toks + 1 + 1, s₃.os⟩) G F₄ kf.S rfl (R₄.h_vars (by show 3 ≤ S.ph; omega)) (by decide) rfl (absN (s := ⟨h₄, s₃.gens, s₃.drawn, s₃.toks + 1 + 1 + 1, s₃.os⟩) G kf F₄ rfl fun s₅ u e₅ f₅ => ?_))))
  have hl2 := hl.2
  have hvl := W.vars
  have hn := W.n
  refine list_set (by rw [e₅]; exact hb1) (by omega) (by rw [List.length_map]; show _ < ((S.vars.length : Nat) : Int); omega) (by rw [List.length_map]; show S.vars.length ≤ 1000; omega) fun h₆ k₆ sb₆ ho₆ => ?_
  rw [e₅] at sb₆
  have ev : (S.vars.map Value.bool).set ((lit.natAbs : Int).toNat) (.bool true) = (S.vars.set lit.natAbs true).map Value.bool := by
    rw [Int.toNat_natCast]; simp [List.map_set]
  rw [ev] at ho₆
  have R₆ := R₄.u_vars (by show 3 ≤ S.ph; omega) sb₆ ho₆
  have R₆' : Rep prog w B D adr (asg0 S r lv lit) h₆ := R₆
  have W₆ := W.asg0 hlast hl
  have e6 : Eff D s ⟨h₆, s₅.gens, s₅.drawn, s₅.toks, s₅.os⟩ := e4.same ⟨fun b o n q => (sb₆.2 b fun z => n (z ▸ R.sub .vars (by show 3 ≤ S.ph; omega))).trans q, f₅.gens, f₅.os⟩
  have F₆ : Fr B L h₆ _ := Fr_eff' (s := ⟨h₄, s₃.gens, s₃.drawn, s₃.toks, s₃.os⟩) F₄ (s' := ⟨h₆, s₃.gens, s₃.drawn, s₃.toks + 1 + 1, s₃.os⟩) (P := D) (sb_eff (tk := s₃.toks + 1 + 1) sb₆ (R.sub .vars (by show 3 ≤ S.ph; omega))) hLD (fun b z => z) hB
  refine wpAny_execs_cons (wpAny_Expr (self_call (s := ⟨h₆, s₅.gens, s₅.drawn, s₅.toks, s₅.os⟩) G F₆ kf.S kf.fVA R₆' rfl (by decide) (args_cons (ld F₆ rfl (args_nil ⟨(frOn F₆), ?_⟩)))))
  refine call_lit_assigned G kf (frOn F₆) (rm.deeper.less (by omega)) fun s₇ e₇ => ?_
  have R₇ := R₆'.keep fun b o q => e₇.all q
  have F₇ := Fr_no F₆ e₇
  have e7 : Eff D s s₇ := e6.same e₇.no
  obtain ⟨od, d1, d2⟩ := R₇.o_sdct (by show 1 ≤ S.ph; omega)
  obtain ⟨os, c1, c2⟩ := R₇.o_sent (by show 1 ≤ S.ph; omega) (l := -lit) hlt
  refine wpAny_execs_cons (asn (B := B) (Call_ (nmB G kf F₇ (callWith_type1 (args_cons (Subscript_ (attr_name G F₇ kf.S rfl (R₇.h_sdct (by show 1 ≤ S.ph; omega)) (by decide) rfl (UnaryOp_ (ld F₇ rfl (P.neg_int (itemMap d1 d2 (mem_litsOf.mpr hlt) fun v hv => args_nil ?_)))))))))))
  subst hv
  refine call_list_set rm.deeper.hh c1 c2 (by have := W.small hlt; show (S.sent (-lit)).length < scanBound; omega) fun s₈ dl vs k₈ ms e₈ hd8 hd8' hi8 hp8 => ?_
  have F₈ := Fr_no (s := { s₇ with toks := s₇.toks + 1 + 1 + 1 }) F₇ e₈
  refine ⟨_, F₈, fun s₉ F₉ e₉ => ?_⟩
  have e8 : Eff D s s₈ := e7.same ⟨fun b o n q => e₈.keep b o (fun z => z) q, e₈.gens, e₈.os⟩
  have hdD : ¬ D dl := R₇.new hd8
  have hd0 : s.heap.get? dl = none := Eff_fresh e7 hd8 hdD
  have hdL : dl ≠ L := fun z => by obtain ⟨ob, q⟩ := Fr_live F₇; rw [z] at hd8; rw [show s₇.heap.get? L = none from hd8] at q; cases q
  have hd9 : s₉.heap.get? dl = some (listO vs.toArray k₈) := e₉.keep _ _ hdL hd8'
  have e9 : Eff D s s₉ := e8.new e₉ fun b z => by rw [z]; exact hL
  have R₉ : Rep prog w B D adr (asg0 S r lv lit) s₉.heap := (R₇.keep fun b o q => e₈.all q).eff e₉ fun b z => z ▸ hLD
  refine wpAny_execs_cons (wpAny_For (ld F₉ updS_self ?_))
  refine iter_list (listO_is hd9) (ints_f2 hi8) fun s₁₀ it T e₁₀ hit IT hT => ?_
  have e10 : Eff D s s₁₀ := e9.same e₁₀.no
  have F₁₀ := Fr_no F₉ e₁₀
  have hitL : it ≠ L := fun z => by subst z; obtain ⟨ob, q⟩ := Fr_live F₉; rw [q] at hit; cases hit
  have hitD : ¬ D it := R₉.new hit
  have hits : s.heap.get? it = none := Eff_fresh e9 hit hitD
  have hnd : ms.Nodup := hp8.nodup_iff.mpr (W.sent _ hlt).1
  refine loop_iter (prog := prog) (w := w) (B := B) rm.deeper.hh IT (by simpa using Ne.symm hitL) (by simpa using Ne.symm hdL) (fun b hb => by rw [List.mem_singleton] at hb; subst hb; exact o.none hits)
    (fun rem m' s' => ∃ done, done ++ rem = ms ∧ m' "self" = some (.ref (adr .slf)) ∧ m' "lit" = some (.int lit t) ∧ WF (done.foldl (stepC lit) (asg0 S r lv lit)) ∧ Rep prog w B D adr (done.foldl (stepC lit) (asg0 S r lv lit)) s'.heap ∧ Eff D s s' ∧
      (∀ c ∈ rem, c ∈ (done.foldl (stepC lit) (asg0 S r lv lit)).sent (-lit)) ∧ (done.foldl (stepC lit) (asg0 S r lv lit)).que.length ≤ S.que.length + done.length ∧ (done.foldl (stepC lit) (asg0 S r lv lit)).n = S.n ∧ (done.foldl (stepC lit) (asg0 S r lv lit)).ph = S.ph)
    ⟨[], rfl, rfl, rfl, W₆, R₉.keep fun b o q => e₁₀.all q, e10, fun c hc => hp8.mem_iff.mp hc, Nat.le_refl _, rfl, rfl⟩ F₁₀ hT ?_ ?_
  · rintro c rem m₁ s₁ s₂ v ⟨done, hdone, hm, hlit, Wd, Rd, ed, hin, hqd, hnd', hphd⟩ ⟨tk, rfl⟩ F₂ e₂ _
    have e2 : Eff D s s₂ := ed.new e₂ fun b hb => by rcases hb with rfl | rfl; exact hits; exact hL
    have R₂ := Rd.eff e₂ fun b hb => by rcases hb with rfl | rfl; exact hitD; exact hLD
    have hcin := hin c (by simp)
    obtain ⟨i, rfl, hi⟩ := (Wd.sent (-lit) (by rw [hnd']; exact hlt)).2 c hcin
    obtain ⟨cl, hcl⟩ : ∃ cl, (done.foldl (stepC lit) (asg0 S r lv lit)).cls[i]? = some cl := ⟨_, List.getElem?_eq_getElem hi⟩
    have hdl : done.length ≤ 4096 := by
      have a1 := W.small hlt
      have a2 := hp8.length_eq
      have a3 : done.length ≤ ms.length := by rw [← hdone]; simp
      have a4 : scanBound = 4096 := rfl
      have a5 : ((asg0 S r lv lit).sent (-lit)).length = (S.sent (-lit)).length := rfl
      omega
    refine al_turn (t := t) (i := i) (cl := cl) G kf F₂ R₂ Wd rm.deeper (by rw [hphd]; exact hph) hLD (by have := Wd.vsz; show _ < 4096; omega) ?_ ?_ (by rw [hnd']; exact hl) rfl rfl hcl hcin (by omega) fun s₃ m₃ F₃ hm3 hlit3 R₃ e₃ => ?_
    · rw [← hm]; exact if_neg (by decide)
    · rw [← hlit]; exact if_neg (by decide)
    · have e3 : Eff D s s₃ := e2.trans e₃ fun b hb => hb.elim .inl fun z => .inr (z ▸ hL)
      have hfold : (done ++ [(i : Int)]).foldl (stepC lit) (asg0 S r lv lit) = stepC lit (done.foldl (stepC lit) (asg0 S r lv lit)) i := by rw [List.foldl_append]; rfl
      have hcd : (i : Int) ∉ rem := fun z => by
        rw [← hdone, List.nodup_append] at hnd; exact (List.nodup_cons.mp hnd.2.1).1 z
      refine ⟨m₃, fun b => D b ∨ b = L, F₃, ⟨done ++ [(i : Int)], by rw [List.append_assoc]; exact hdone, hm3, hlit3, ?_, ?_, e3, ?_, ?_, ?_, ?_⟩, e₃, ?_⟩
      · rw [hfold]; exact Wd.stepC (by rw [hnd']; exact hl) hcin
      · rw [hfold]; exact R₃
      · rw [hfold]; exact fun c hc => stepC_keep (fun z => hcd (z ▸ hc)) (hin c (by simp [hc]))
      · rw [hfold]; have := stepC_que (S := done.foldl (stepC lit) (asg0 S r lv lit)) (lit := lit) (c := i); simp; omega
      · rw [hfold, stepC_cls.2.1]; exact hnd'
      · rw [hfold, stepC_cls.2.2.1]; exact hphd
      · rintro b (hb | hb) z
        · rw [List.mem_singleton] at hb; subst hb
          exact z.elim hitD hitL
        · rw [List.mem_singleton] at hb; subst hb
          exact z.elim hdD hdL
  · rintro m₁ s₁ s₂ ⟨done, hdone, hm, hlit, Wd, Rd, ed, -⟩ F₂ e₂
    rw [List.append_nil] at hdone; subst hdone
    exact wpAny_execs_nil (hq s₂ done hp8 (Rd.eff e₂ fun b z => z ▸ hitD) (ed.new e₂ fun b z => z ▸ hits))
end
end Dp
end
section
open PySem PySem.W PySem.Calls PyProof.Rows
namespace Dp
inductive UP : SV → Bool → SV → Prop
  | done {S : SV} : S.que = [] → UP S false S
  | confl {S : SV} {q : List Int} {l : Int} : S.que = q ++ [l] → -l ∈ S.vs → UP S true { S with que := [], unsat := true }
  | step {S S' : SV} {q : List Int} {l : Int} {r : List LV} {lv : LV} {ord : List Int} {c : Bool} : S.que = q ++ [l] → -l ∉ S.vs → S.lvs = r ++ [lv] → ord.Perm (S.sent (-l)) → UP (ord.foldl (stepC l) (asg0 { S with que := q } r lv l)) c S' → UP S c S'
structure UPpre (S : SV) : Prop where
  wf : WF S
  que : ∀ l ∈ S.que, IsLit S.n l
  qz : S.que.length < 5000
  ph : 8 ≤ S.ph ∧ S.ph ≤ 20
  lvs : S.lvs ≠ []
def nextUP (S S1 : SV) : Prop := ∃ (q : List Int) (l : Int) (r : List LV) (lv : LV) (ord : List Int), S.que = q ++ [l] ∧ -l ∉ S.vs ∧ S.lvs = r ++ [lv] ∧ ord.Perm (S.sent (-l)) ∧ S1 = ord.foldl (stepC l) (asg0 { S with que := q } r lv l)
def UPsafe : Nat → SV → Prop
  | 0, S => UPpre S ∧ ∀ S1, ¬ nextUP S S1
  | k + 1, S => UPpre S ∧ ∀ S1, nextUP S S1 → UPsafe k S1
theorem UPsafe.pre {k : Nat} {S : SV} (h : UPsafe k S) : UPpre S := by cases k <;> exact h.1
theorem UPsafe.next {k : Nat} {S S1 : SV} (h : UPsafe k S) (x : nextUP S S1) : ∃ j, j < k ∧ UPsafe j S1 := by
  cases k with
  | zero => exact absurd x (h.2 S1)
  | succ k => exact ⟨k, Nat.lt_succ_self k, h.2 S1 x⟩
theorem ints_split {vs : List Value} {q : List Int} {l : Int} (x : IntsAre vs (q ++ [l])) : ∃ vq t, vs = vq ++ [.int l t] ∧ IntsAre vq q := by
  induction q generalizing vs with
  | nil => cases x with | cons n t x => cases x; exact ⟨[], t, rfl, .nil⟩
  | cons a q ih => cases x with | cons n t x => obtain ⟨vq, t', rfl, y⟩ := ih x; exact ⟨.int a t :: vq, t', rfl, .cons a t y⟩
theorem snoc_or {α : Type} (l : List α) : l = [] ∨ ∃ q x, l = q ++ [x] := by
  rcases List.eq_nil_or_concat l with h | ⟨q, x, h⟩
  · exact .inl h
  · exact .inr ⟨q, x, by simpa using h⟩
section
variable {prog : Program} {w : World} {K : Frag} {B : Heap} {A : Around} {E : Value → Shared → Prop} {s s' s₁ s₂ : Shared} {L a l x C : Addr} {m : Str → Option Value} {adr : Role → Addr} {D D₁ D₂ P : Addr → Prop} {S S' : SV} {cn : Str} {cs : Scope} {cd : Value} {h h' : Heap}
def newQue (adr : Role → Addr) (b : Addr) : Role → Addr := fun r => if rolEq r .que = true then b else adr r
theorem newQue_ne {r : Role} {b : Addr} (h : r ≠ .que) : newQue adr b r = adr r := if_neg fun z => h (rolEq_iff.mp z)
theorem set_que {b : Addr} {Q : Unit → Shared → Prop} (G : Bas w K B) (o : On B s.heap) (c : ClsAt K 207 sAttrs) (R : Rep prog w B D adr S s.heap) (hz : S.ph ≤ 20) (hb : ¬ D b) (hbo : s.heap.get? b = some (listO #[] 0)) (hB : B.get? b = none)
    (hq : ∀ s', Rep prog w B (fun x => D x ∨ x = b) (newQue adr b) { S with que := [] } s'.heap → Eff (fun x => x = adr .dct) s s' → Q () s') :
    wpAny (model prog w) A (setAttr (.ref (adr .slf)) "_unit_prop_queue" (.ref b)) Q E s := by
  refine R.set G o c (by decide) hz fun h' es k f sb g hl hp hd ha tk => hq _ ?_ (sb_eff sb rfl)
  have ne : ∀ x : Str, x ≠ "_unit_prop_queue" → updS f "_unit_prop_queue" (.ref b) x = f x := fun x hx => if_neg hx
  have hbd : b ≠ adr .dct := fun z => hb (z ▸ R.sub .dct trivial)
  have hne : ∀ {r}, S.live r → b ≠ adr r := fun hr z => hb (z ▸ R.sub _ hr)
  have hown : ∀ x, ownOf (newQue adr b) { S with que := [] } x → ownOf adr S x ∨ x = b := by
    rintro x ⟨q, h1, h2⟩
    by_cases e : q = .que
    · subst e; exact .inr h2.symm
    · rw [newQue_ne e] at h2; exact .inl ⟨q, h1, h2⟩
  have hfz : ∀ a o, Fz D (ownOf adr S) s.heap a o → Fz (fun x => D x ∨ x = b) (ownOf (newQue adr b) { S with que := [] }) h' a o := fun a o z =>
    ⟨.inl z.1, fun y => (hown a y).elim z.2.1 fun e => hb (e ▸ z.1), (sb.2 a fun y => z.2.1 ⟨.dct, trivial, y.symm⟩).trans z.2.2⟩
  refine ⟨fun q hq => ?_, fun q q' h1 h2 e => ?_, fun q hq => ?_, fun x hx => hx.elim (R.off x) fun z => z ▸ hB, fun x hx => ?_, R.syms⟩
  · by_cases e : q = .que
    · subst e
      exact ⟨_, (sb.2 b hbd).trans hbo, [], 0, rfl, .nil⟩
    rw [newQue_ne e]
    by_cases e2 : q = .dct
    · subst e2
      refine ⟨_, g, es, k, _, rfl, hp _ ha.que, hd, ?_⟩
      refine ⟨(ne _ (by decide)).trans ha.vset, (ne _ (by decide)).trans ha.unsat, if_pos rfl, (ne _ (by decide)).trans ha.syms, fun h => (ne _ (by decide)).trans (ha.sdct h), fun h => (ne _ (by decide)).trans (ha.odct h), fun h => (ne _ (by decide)).trans (ha.vars h), fun h => (ne _ (by decide)).trans (ha.cls h), fun h => (ne _ (by decide)).trans (ha.hp h), fun h => (ne _ (by decide)).trans (ha.sdic h), fun h => (ne _ (by decide)).trans (ha.learn h), fun h => (ne _ (by decide)).trans (ha.lvs h), fun h => ?_, fun h => ?_, fun x hx => (ne x fun z => hx (by rw [z]; decide)).trans (ha.rest x hx)⟩
      · rw [ne _ (by decide)]; exact ha.n1 h
      · rw [ne _ (by decide)]; exact ha.n2 h
    obtain ⟨o, h1, h2⟩ := R.ok q hq
    refine ⟨o, (sb.2 _ fun z => e2 (R.inj q .dct hq trivial z)).trans h1, ?_⟩
    have h3 := h2.fz hfz
    cases q <;> first | exact h3 | exact absurd rfl e | exact absurd rfl e2
  · by_cases e1 : q = .que
    · subst e1
      by_cases e2 : q' = .que
      · exact e2.symm
      · rw [newQue_ne e2] at e; exact absurd e (hne h2)
    · rw [newQue_ne e1] at e
      by_cases e2 : q' = .que
      · subst e2; exact absurd e.symm (hne h1)
      · rw [newQue_ne e2] at e; exact R.inj q q' h1 h2 e
  · by_cases e1 : q = .que
    · subst e1; exact .inr rfl
    · rw [newQue_ne e1]; exact .inl (R.sub q hq)
  · by_cases e : x = adr .dct
    · subst e; exact ⟨_, g⟩
    · rcases hx with hx | hx
      · obtain ⟨o, q⟩ := R.alive x hx; exact ⟨o, (sb.2 x e).trans q⟩
      · subst hx; exact ⟨_, (sb.2 x e).trans hbo⟩
theorem call_unit_prop {k : Nat} {Rr : Result → Shared → Prop} (G : Bas w K B) (kf : KF K) (o : On B s.heap) (R : Rep prog w B D adr S s.heap) (U : UPsafe k S) (rm : Rm A 4)
    (hq : ∀ s' D' adr' S' c, UP S c S' → Rep prog w B D' adr' S' s'.heap → Gr D D' s s' → adr' .slf = adr .slf → Rr (.ok (.ret (.bool (if c then false else decide (S.que ≠ []))))) s') :
    codeAny (model prog w) A (.call (.ref 143) ⟨[.ref (adr .slf)], []⟩) Rr s := by
  obtain ⟨pm, ho⟩ := kf.fUP.fn.at_
  refine call_fn (binds := [("self", .ref (adr .slf))]) G o ho kf.fUP.fn.code rm.room (BindsTo.of_eq rfl) (locs rfl) (fun h₁ L F hL hk => ?_)
  have R₁ := R.keep hk
  have hLD : ¬ D L := R.new hL
  have hB := R.off
  obtain ⟨oq, q1, vs, kq, rfl, qi⟩ := R₁.o_que
  refine wpAny_execs_cons (asn (B := B) (wpAny_Compare1 (Call_ (nmB G kf F (callWith_builtin1 (args_cons (attr_name G F kf.S rfl R₁.h_que (by decide) rfl (args_nil ?_))))))))
  refine call_len_list (s := ⟨h₁, s.gens, s.drawn, s.toks + 1 + 1, s.os⟩) (listO_is q1) (by have := qi.length; have := U.pre.qz; rw [List.size_toArray]; omega) ?_
  refine wpAny_Constant_int (P.gt_int ?_)
  refine ⟨_, F, fun s₂ F₂ e₂ => ?_⟩
  have hres : decide (((vs.toArray.size : Nat) : Int) > 0) = decide (S.que ≠ []) := by
    rw [List.size_toArray, qi.length]
    cases S.que <;> simp
  rw [hres] at F₂
  have e2 : Eff D s s₂ := ⟨fun b o n q => e₂.keep b o (fun z => by rw [z, hL] at q; cases q) (hk b o q), e₂.gens, e₂.os⟩
  have R₂ : Rep prog w B D adr S s₂.heap := R₁.eff e₂ fun b z => z ▸ hLD
  refine wpAny_execs_cons (wpAny_While (codeAny_whileLoop (fun n s' => ∃ m' S', Fr B L s'.heap m' ∧ m' "self" = some (.ref (adr .slf)) ∧ m' "result" = some (.bool (decide (S.que ≠ []))) ∧ UPsafe n S' ∧ Rep prog w B D adr S' s'.heap ∧ Eff D s s' ∧ ∀ c S'', UP S' c S'' → UP S c S'') ?_ k ⟨_, S, F₂, rfl, updS_self, U, R₂, e2, fun _ _ x => x⟩))
  rintro n s₃ ⟨m₃, S₃, F₃, hm, hr, U₃, R₃, e3, hist⟩
  obtain ⟨oq, q1, vs, kq, rfl, qi⟩ := R₃.o_que
  have hqz := U₃.pre.qz
  have W₃ := U₃.pre.wf
  refine wpAny_isTrue_value (attr_name G F₃ kf.S hm R₃.h_que (by decide) rfl (wpAny_truthy_list (s := { s₃ with toks := s₃.toks + 1 }) (listO_is q1) (by have := qi.length; rw [List.size_toArray]; omega) ?_))
  rcases snoc_or S₃.que with hem | ⟨q, l, hql⟩
  · have hv : vs = [] := List.length_eq_zero_iff.mp (by rw [qi.length, hem]; rfl)
    subst hv
    rw [if_neg (by decide)]
    refine wpAny_execs_nil ?_
    refine wpAny_execs_cons (wpAny_Return_some (ld F₃ hr ?_))
    have := hq { s₃ with toks := s₃.toks + 1 + 1 + 1 } D adr S₃ false (hist _ _ (.done hem)) R₃ ⟨fun _ h => h, fun _ h => .inl h, ⟨e3.keep, e3.gens, e3.os⟩⟩ rfl
    exact this
  · rw [hql] at qi
    obtain ⟨vq, tl, rfl, qi'⟩ := ints_split qi
    rw [if_pos (by simp)]
    have hlm : l ∈ S₃.que := by rw [hql]; simp
    have hll := U₃.pre.que l hlm
    have hlen := qi'.length
    have hqlen : S₃.que.length = q.length + 1 := by rw [hql]; simp
    refine wpAny_execs_cons (asn (B := B) (MethodCall_ (attr_name (s := { s₃ with toks := s₃.toks + 1 + 1 + 1 }) G F₃ kf.S hm R₃.h_que (by decide) rfl (meth_list (s := { s₃ with toks := s₃.toks + 1 + 1 + 1 + 1 }) q1 PySem.F.slot_list_pop PySem.F.type_list_pop ?_))))
    refine list_pop (s := { s₃ with toks := s₃.toks + 1 + 1 + 1 + 1 }) q1 (by rw [sizeLine_eq]; omega) fun h₄ k₄ sb₄ ho₄ => ?_
    have R₄ := R₃.u_que sb₄ ho₄ (ns := q) ⟨vq, k₄, rfl, qi'⟩
    have e4 : Eff D s ⟨h₄, s₃.gens, s₃.drawn, s₃.toks + 1 + 1 + 1 + 1, s₃.os⟩ := e3.same (sb_eff (tk := s₃.toks + 1 + 1 + 1 + 1) sb₄ (R₃.sub .que trivial))
    have F₄ := Fr_eff' F₃ (s' := ⟨h₄, s₃.gens, s₃.drawn, s₃.toks + 1 + 1 + 1 + 1, s₃.os⟩) (P := D) (sb_eff (tk := s₃.toks + 1 + 1 + 1 + 1) sb₄ (R₃.sub .que trivial)) hLD (fun b z => z) hB
    refine ⟨_, F₄, fun s₅ F₅ e₅ => ?_⟩
    have R₅ := R₄.eff e₅ fun b z => z ▸ hLD
    have e5 := e4.new e₅ fun b z => by rw [z]; exact hL
    have hm5 : updS m₃ "next_lit" (.int l tl) "self" = some (.ref (adr .slf)) := by rw [updS_ne (by decide)]; exact hm
    obtain ⟨ov, v1, v2⟩ := R₅.o_vset
    refine wpAny_execs_cons (wpAny_If (wpAny_isTrue_Compare1 (UnaryOp_ (ld F₅ updS_self (P.neg_int (attr_name (s := { s₅ with toks := s₅.toks + 1 }) G F₅ kf.S hm5 R₅.h_vset (by decide) rfl (in_set (s := { s₅ with toks := s₅.toks + 1 + 1 }) v1 v2 (by have := W₃.vsz; show S₃.vs.length < 4096; omega) (wpAny_truthy_bool ?_))))))))
    by_cases hc : -l ∈ S₃.vs
    · rw [if_pos (by simpa using hc)]
      have e6 : Eff D s { s₅ with toks := s₅.toks + 1 + 1 + 1 } := ⟨e5.keep, e5.gens, e5.os⟩
      refine wpAny_execs_cons (plainObj_wpAny_Assign_Attribute (wpAny_Constant_bool (ld F₅ hm5 ?_)))
      refine set_unsat (s := { s₅ with toks := s₅.toks + 1 + 1 + 1 }) G (frOn F₅) kf.S R₅ U₃.pre.ph.2 fun s₆ R₆ e₆ => ?_
      have e7 : Eff D s s₆ := e6.same (e₆.sub fun b z => z ▸ R₅.sub .dct trivial)
      have F₆ := Fr_eff' (s := { s₅ with toks := s₅.toks + 1 + 1 + 1 }) F₅ e₆ (fun z => hLD (z ▸ R₅.sub .dct trivial)) (fun b z => z ▸ R₅.sub .dct trivial) hB
      refine wpAny_execs_cons (plainObj_wpAny_Assign_Attribute (List_ (args_nil (new_list (by rw [sizeLine_eq]; simp) fun s₇ b hb hb7 e₇ => ld (Fr_no F₆ e₇) hm5 ?_))))
      have R₇ := R₆.keep fun b o q => e₇.all q
      have hbD : ¬ D b := R₆.new hb
      have e8 : Eff D s s₇ := e7.same e₇.no
      have hbs : s.heap.get? b = none := Eff_fresh e7 hb hbD
      refine set_que G (frOn (Fr_no F₆ e₇)) kf.S R₇ U₃.pre.ph.2 hbD hb7 (o.none hbs) fun s₈ R₈ e₈ => ?_
      refine wpAny_execs_cons (wpAny_Return_some (wpAny_Constant_bool ?_))
      have e9 : Eff D s s₈ := e8.same (e₈.sub fun b z => z ▸ R₅.sub .dct trivial)
      exact hq s₈ _ _ _ true (hist _ _ (.confl hql hc)) R₈ ⟨fun _ h => .inl h, fun x hx => hx.elim .inl fun z => .inr (by rw [show x = b from z]; exact hbs), e9⟩ (newQue_ne (by nofun))
    · rw [if_neg (by simpa using hc)]
      rcases snoc_or S₃.lvs with hlv | ⟨r, lv, hlv⟩
      · exact absurd hlv U₃.pre.lvs
      have Wq : WF { S₃ with que := q } := ⟨W₃.n, W₃.vars, W₃.vs, W₃.vsN, W₃.cls, W₃.lits, W₃.sent, W₃.lvs, W₃.lv⟩
      refine wpAny_execs_cons (wpAny_Expr (self_call (s := { s₅ with toks := s₅.toks + 1 + 1 + 1 }) G F₅ kf.S kf.fAL R₅ hm5 (by decide) (args_cons (ld F₅ updS_self (args_nil ⟨(frOn F₅), ?_⟩)))))
      refine call_assign (s := { s₅ with toks := s₅.toks + 1 + 1 + 1 }) (lit := l) (r := r) (lv := lv) G kf (frOn F₅) R₅ Wq rm.deeper U₃.pre.ph.1 hlv hll (by show q.length < 5000; omega) fun s₆ ord hord R₆ e₆ => ?_
      have e6 : Eff D s s₆ := (show Eff D s { s₅ with toks := s₅.toks + 1 + 1 + 1 } from ⟨e5.keep, e5.gens, e5.os⟩).same e₆
      have F₆ := Fr_eff' (s := { s₅ with toks := s₅.toks + 1 + 1 + 1 }) F₅ e₆ hLD (fun b z => z) hB
      obtain ⟨j, hj, Uj⟩ := U₃.next ⟨q, l, r, lv, ord, hql, hc, hlv, hord, rfl⟩
      refine wpAny_execs_nil (wpAny_execs_nil ⟨j, hj, _, _, F₆, hm5, by rw [updS_ne (by decide)]; exact hr, Uj, R₆, e6, fun c S'' x => hist c S'' (.step hql hc hlv hord x)⟩)
end
end Dp
end
section
open PySem PySem.W PySem.Calls PyProof.Rows
namespace Dp
theorem UP.safe {S S' : SV} {c : Bool} (x : UP S c S') : ∀ {k : Nat}, UPsafe k S → c = false → S'.que = [] ∧ ∃ k', UPsafe k' S' := by
  induction x with
  | done h => exact fun U _ => ⟨h, _, U⟩
  | confl h _ => intro k U z; cases z
  | step h1 h2 h3 h4 _ ih => exact fun U z => let ⟨j, _, Uj⟩ := U.next ⟨_, _, _, _, _, h1, h2, h3, h4, rfl⟩; ih Uj z
theorem UP.empty {S S' : SV} {c : Bool} (x : UP S c S') (h : S.que = []) : c = false ∧ S' = S := by
  cases x with
  | done _ => exact ⟨rfl, rfl⟩
  | confl e _ => rw [h] at e; simp at e
  | step e _ _ _ _ => rw [h] at e; simp at e
section
variable {prog : Program} {w : World} {K : Frag} {B : Heap} {A : Around} {E : Value → Shared → Prop} {s s' s₁ s₂ : Shared} {L a l x C : Addr} {m : Str → Option Value} {adr : Role → Addr} {D D₁ D₂ P : Addr → Prop} {S S' : SV} {cn : Str} {cs : Scope} {cd : Value} {h h' : Heap}
theorem call_pure_literal {Rr : Result → Shared → Prop} (G : Bas w K B) (kf : KF K) (o : On B s.heap) (rm : Rm A 0) (hq : ∀ s', Eff No s s' → Rr (.ok (.ret (.bool false))) s') :
    codeAny (model prog w) A (.call (.ref 150) ⟨[.ref (adr .slf)], []⟩) Rr s := by
  obtain ⟨pm, ho⟩ := kf.fPL.fn.at_
  refine call_fn (binds := [("self", .ref (adr .slf))]) G o ho kf.fPL.fn.code rm.room (BindsTo.of_eq rfl) (locs rfl) (fun h₁ L F hL hk => ?_)
  exact wpAny_execs_cons (wpAny_Return_some (wpAny_Constant_bool (hq _ ⟨fun b o _ e => hk b o e, rfl, rfl⟩)))
theorem aug {x : Str} {px pos : Pos} {value : PySem.Expr} {op : Operator} {v₀ : Value} {Q : Flow → Shared → Prop} (F : Fr B L s.heap m) (hm : m x = some v₀) (h : wpAny (model prog w) A (eval value (envOf cn cs L a cd)) (fun v s₁ => wpAny (model prog w) A (inplaceOp op v₀ v) (fun v₁ s₁ => ∃ m₁, Fr B L s₁.heap m₁ ∧ ∀ s₂, Fr B L s₂.heap (updS m₁ x v₁) → Eff (fun b => b = L) s₁ s₂ → Q .next s₂) E s₁) E s)
    (hk : cs.kind = .function := by rfl) (hx : (envOf cn cs L a cd).kindOf x = some .local := by rfl) (hd : (x == ("__debug__" : Str)) = false := by decide) :
    wpAny (model prog w) A (exec (.AugAssign (.Name x px) op value pos) (envOf cn cs L a cd)) Q E s := by
  refine wpAny_AugAssign_Name (ldn F hm (wpAny_mono h (fun v s₁ h₁ => wpAny_mono h₁ (fun v₁ s₂ ⟨m₁, F₁, hq⟩ => ?_) fun _ _ x => x) fun _ _ x => x) hk hx)
  exact wpAny_storeName_local hx F₁.ns (fun h'' hn'' sb' => hq _ (F₁.set hn'' sb') (sb_eff sb' rfl)) (by show (cs.kind == .class || (cs.kind == .module && L != mainGlobals)) = false; rw [hk]; rfl)
theorem call_simplify {k : Nat} {Rr : Result → Shared → Prop} (G : Bas w K B) (kf : KF K) (o : On B s.heap) (R : Rep prog w B D adr S s.heap) (U : UPsafe k S) (rm : Rm A 5)
    (hq : ∀ s' D' adr' S' c, UP S c S' → Rep prog w B D' adr' S' s'.heap → Gr D D' s s' → adr' .slf = adr .slf → Rr (.ok (.ret .none)) s') :
    codeAny (model prog w) A (.call (.ref 136) ⟨[.ref (adr .slf)], []⟩) Rr s := by
  obtain ⟨pm, ho⟩ := kf.fSi.fn.at_
  refine call_fn (binds := [("self", .ref (adr .slf))]) G o ho kf.fSi.fn.code rm.room (BindsTo.of_eq rfl) (locs rfl) (fun h₁ L F hL hk => ?_)
  have R₁ := R.keep hk
  have hLD : ¬ D L := R.new hL
  refine wpAny_execs_cons (asn (B := B) (wpAny_Constant_bool ⟨_, F, fun s₂ F₂ e₂ => ?_⟩))
  have e2 : Eff D s s₂ := ⟨fun b o n q => e₂.keep b o (fun z => by rw [z, hL] at q; cases q) (hk b o q), e₂.gens, e₂.os⟩
  have R₂ : Rep prog w B D adr S s₂.heap := R₁.eff e₂ fun b z => z ▸ hLD
  refine wpAny_execs_cons (wpAny_While (codeAny_whileLoop (fun n s' => ∃ m' D' adr' S' ch, Fr B L s'.heap m' ∧ m' "self" = some (.ref (adr .slf)) ∧ m' "changed" = some (.bool ch) ∧ Rep prog w B D' adr' S' s'.heap ∧ Gr D D' s s' ∧ adr' .slf = adr .slf ∧ ¬ D' L ∧
    ((n = 2 ∧ ch = true ∧ S' = S) ∨ (n = 1 ∧ ch = true ∧ UP S false S') ∨ (n = 0 ∧ ch = false ∧ ∃ c, UP S c S'))) ?_ 2 ⟨_, D, adr, S, true, F₂, rfl, updS_self, R₂, ⟨fun _ h => h, fun _ h => .inl h, e2⟩, rfl, hLD, .inl ⟨rfl, rfl, rfl⟩⟩))
  rintro n s₃ ⟨m₃, D₃, adr₃, S₃, ch, F₃, hm, hc, R₃, g₃, ha, hLD₃, hn⟩
  refine wpAny_isTrue_value (ld F₃ hc (wpAny_truthy_bool ?_))
  cases ch with
  | false =>
    rw [if_neg (by decide)]
    obtain ⟨c, u⟩ : ∃ c, UP S c S₃ := by
      rcases hn with ⟨_, z, _⟩ | ⟨_, z, _⟩ | ⟨_, _, z⟩
      · cases z
      · cases z
      · exact z
    exact wpAny_execs_nil (wpAny_execs_nil (hq s₃ D₃ adr₃ S₃ c u R₃ g₃ ha))
  | true =>
    rw [if_pos rfl]
    have hsafe : (∃ k', UPsafe k' S₃) ∧ (n = 2 ∨ (n = 1 ∧ S₃.que = [])) ∧ ∀ c S'', UP S₃ c S'' → UP S c S'' := by
      rcases hn with ⟨h1, _, h2⟩ | ⟨h1, _, h2⟩ | ⟨_, z, _⟩
      · rw [h2]; exact ⟨⟨_, U⟩, .inl h1, fun _ _ x => x⟩
      · obtain ⟨a, b⟩ := h2.safe U rfl
        exact ⟨b, .inr ⟨h1, a⟩, fun c S'' x => by obtain ⟨x1, x2⟩ := x.empty a; rw [x1, x2]; exact h2⟩
      · cases z
    obtain ⟨⟨k', U₃⟩, hn2, hist⟩ := hsafe
    refine wpAny_execs_cons (asn (B := B) (wpAny_Constant_bool ⟨_, F₃, fun s₄ F₄ e₄ => ?_⟩))
    have R₄ := R₃.eff e₄ fun b z => z ▸ hLD₃
    have g₄ := g₃.loc e₄ fun b z => by rw [z]; exact hL
    have hm4 : updS m₃ "changed" (.bool false) "self" = some (.ref (adr₃ .slf)) := by rw [updS_ne (by decide), hm, ha]
    refine wpAny_execs_cons (aug (B := B) F₄ updS_self (self_call0 G F₄ kf.S kf.fUP R₄ hm4 (by decide) ?_))
    refine call_unit_prop G kf (frOn F₄) R₄ U₃ rm.deeper fun s₅ D₅ adr₅ S₅ c u₅ R₅ g₅ ha₅ => ?_
    refine ior_bool ?_
    have hLD₅ : ¬ D₅ L := g₅.notin hLD₃ (Fr_live F₄)
    have F₅ := g₅.fr F₄ hLD₃ R₄.off
    have g5 := g₄.trans g₅
    refine ⟨_, F₅, fun s₆ F₆ e₆ => ?_⟩
    have R₆ := R₅.eff e₆ fun b z => z ▸ hLD₅
    have g₆ := g5.loc e₆ fun b z => by rw [z]; exact hL
    have hm6 : updS (updS m₃ "changed" (.bool false)) "changed" (.bool (false || (if c then false else decide (S₃.que ≠ [])))) "self" = some (.ref (adr₅ .slf)) := by rw [updS_ne (by decide), hm4, ha₅]
    refine wpAny_execs_cons (aug (B := B) F₆ updS_self (self_call0 G F₆ kf.S kf.fPL R₆ hm6 (by decide) ?_))
    refine call_pure_literal G kf (frOn F₆) (rm.deeper.less (by omega)) fun s₇ e₇ => ?_
    refine ior_bool ⟨_, Fr_no F₆ e₇, fun s₈ F₈ e₈ => ?_⟩
    have R₈ := (R₆.keep fun b o q => e₇.all q).eff e₈ fun b z => z ▸ hLD₅
    have g₈ := (g₆.loc e₇ fun b z => z.elim).loc e₈ fun b z => by rw [z]; exact hL
    have ha8 : adr₅ .slf = adr .slf := ha₅.trans ha
    rw [Bool.false_or, Bool.or_false] at F₈
    have hself : ∀ {v}, updS (updS (updS m₃ "changed" (.bool false)) "changed" (.bool (if c then false else decide (S₃.que ≠ [])))) "changed" v "self" = some (.ref (adr .slf)) := fun {v} => by rw [updS_ne (by decide), updS_ne (by decide), hm4, ha]
    rcases hn2 with h2 | ⟨h1, hem⟩
    · by_cases hb : (if c then false else decide (S₃.que ≠ [])) = true
      · have hcf : c = false := by cases c with | false => rfl | true => simp at hb
        exact wpAny_execs_nil ⟨1, by omega, _, D₅, adr₅, S₅, true, F₈, hself, by rw [hb]; exact updS_self, R₈, g₈, ha8, hLD₅, .inr (.inl ⟨rfl, rfl, hist _ _ (hcf ▸ u₅)⟩)⟩
      · rw [Bool.not_eq_true] at hb
        exact wpAny_execs_nil ⟨0, by omega, _, D₅, adr₅, S₅, false, F₈, hself, by rw [hb]; exact updS_self, R₈, g₈, ha8, hLD₅, .inr (.inr ⟨rfl, rfl, c, hist _ _ u₅⟩)⟩
    · have hb : (if c then false else decide (S₃.que ≠ [])) = false := by rw [hem]; simp
      exact wpAny_execs_nil ⟨0, by omega, _, D₅, adr₅, S₅, false, F₈, hself, by rw [hb]; exact updS_self, R₈, g₈, ha8, hLD₅, .inr (.inr ⟨rfl, rfl, c, hist _ _ u₅⟩)⟩
end
end Dp
end
section
open PySem PySem.W PySem.Calls PyProof.Rows
namespace Dp
inductive Calc (S : SV) : Int → List Int → Prop
  | none : (∀ x ∈ S.hp, S.isV x = true) → Calc S 0 []
  | some {l : Int} {pop hp : List Int} : (∀ x ∈ pop, S.isV x = true) → S.isV l = false → (pop ++ l :: hp).Perm S.hp → Calc S l hp
section
variable {prog : Program} {w : World} {K : Frag} {B : Heap} {A : Around} {E : Value → Shared → Prop} {s s' s₁ s₂ : Shared} {L a l x C : Addr} {m : Str → Option Value} {adr : Role → Addr} {D D₁ D₂ P : Addr → Prop} {S S' : SV} {cn : Str} {cs : Scope} {cd : Value} {h h' : Heap}
theorem itemTup {value slice : PySem.Expr} {t : Addr} {v0 v1 : Value} {u : Tok} {Q : Value → Shared → Prop} (ht : s.heap.get? t = some (tupO #[v0, v1])) (h : Q v1 s)
    (hs : subscripted slice false (.ref t) (.int 1 u) = operate [.ref t, .int 1 u] (getItem (.ref t) (.int 1 u)) := by with_unfolding_all rfl) :
    wpAny (model prog w) A (subscriptTail value slice (.ref t) (.int 1 u)) Q E s :=
  tail_any ⟨_, ht, rfl⟩ slot_tuple_getitem.lookup (getItem_tuple (j := 1) ⟨_, ht, rfl, _, rfl⟩ (by decide) (by decide) (by rfl) rfl h) hs
theorem Rep.hp0 (R : Rep prog w B D adr S h) (hph : 5 ≤ S.ph) {x : Int} {r : List Int} (e : S.hp = x :: r) : ∃ (vs : List Value) (b : Addr) (k : Nat) (i : Int) (t t' : Tok), h.get? (adr .hp) = some (listO vs.toArray k) ∧ vs[0]? = some (.ref b) ∧ vs.length = S.hp.length ∧ h.get? b = some (tupO #[.int i t, .int x t']) ∧ D b ∧ ¬ ownOf adr S b := by
  obtain ⟨o, h1, as, k, rfl, f⟩ := R.o_hp hph
  have hl := f.length
  rw [e] at f
  cases f with
  | cons r0 f0 =>
    rename_i b as0
    obtain ⟨i, t, t', z⟩ := r0
    exact ⟨_, b, k, i, t, t', h1, rfl, by rw [List.length_map, hl], z.2.2, z.1, z.2.1⟩
set_option maxHeartbeats 2000000 in
theorem call_calculate {Rr : Result → Shared → Prop} (G : Bas w K B) (kf : KF K) (o : On B s.heap) (R : Rep prog w B D adr S s.heap) (rm : Rm A 2) (hph : 5 ≤ S.ph) (hv : S.vars.length = S.n + 1) (hn : S.n ≤ 20) (hlit : ∀ x ∈ S.hp, IsLit S.n x) (hz : S.hp.length < 10000)
    (hq : ∀ s' l hp' t, Calc S l hp' → Rep prog w B D adr { S with hp := hp' } s'.heap → Eff D s s' → Rr (.ok (.ret (.int l t))) s') :
    codeAny (model prog w) A (.call (.ref 164) ⟨[.ref (adr .slf)], []⟩) Rr s := by
  obtain ⟨pm, ho⟩ := kf.fVC.fn.at_
  refine call_fn (binds := [("self", .ref (adr .slf))]) G o ho kf.fVC.fn.code rm.room (BindsTo.of_eq rfl) (locs rfl) (fun h₁ L F hL hk => ?_)
  have R₁ := R.keep hk
  have hLD : ¬ D L := R.new hL
  have hB := R.off
  obtain ⟨oh, h1, as, k, rfl, f⟩ := R₁.o_hp hph
  have hlen := f.length
  refine wpAny_execs_cons (wpAny_If (wpAny_isTrue_Compare1 (Call_ (nmB G kf F (callWith_builtin1 (args_cons (attr_name G F kf.S rfl (R₁.h_hp hph) (by decide) rfl (args_nil ?_))))))))
  refine call_len_list (s := ⟨h₁, s.gens, s.drawn, s.toks + 1 + 1, s.os⟩) (listO_is h1) (by rw [List.size_toArray, List.length_map]; omega) ?_
  refine wpAny_Constant_int (P.eq_int (wpAny_truthy_bool ?_))
  rw [List.size_toArray, List.length_map, hlen]
  by_cases hem : S.hp = []
  · rw [if_pos (by rw [hem]; rfl)]
    refine wpAny_execs_cons (wpAny_Return_some (wpAny_Constant_int ?_))
    exact hq _ 0 [] _ (.none fun x hx => by rw [hem] at hx; cases hx) (by rw [← hem]; exact R₁) ⟨fun b o n q => hk b o q, rfl, rfl⟩
  rw [if_neg (by rw [Bool.not_eq_true, beq_eq_false_iff_ne]; intro z; exact hem (List.length_eq_zero_iff.mp (by omega)))]
  refine wpAny_execs_nil ?_
  refine wpAny_execs_cons (wpAny_While (codeAny_whileLoop (fun n s' => ∃ m' pop hp', Fr B L s'.heap m' ∧ m' "self" = some (.ref (adr .slf)) ∧ hp' ≠ [] ∧ hp'.length ≤ n ∧ (pop ++ hp').Perm S.hp ∧ (∀ x ∈ pop, S.isV x = true) ∧ Rep prog w B D adr { S with hp := hp' } s'.heap ∧ Eff D s s') ?_ S.hp.length ⟨_, [], S.hp, F, rfl, hem, Nat.le_refl _, .refl _, fun x h => (nomatch h), R₁, ⟨fun b o n q => hk b o q, rfl, rfl⟩⟩))
  rintro n s₂ ⟨m₂, pop, hp₂, F₂, hm, hne, hln, hperm, hpop, R₂, e2⟩
  obtain ⟨x, hp₃, rfl⟩ : ∃ x r, hp₂ = x :: r := by cases hp₂ with | nil => exact absurd rfl hne | cons x r => exact ⟨x, r, rfl⟩
  obtain ⟨vs, b, k, i, t, t', g1, g2, g3, g4, g5, g6⟩ := R₂.hp0 hph rfl
  have hlz : hp₃.length + 1 ≤ S.hp.length := by rw [← hperm.length_eq]; simp
  have hxl : IsLit S.n x := hlit x (hperm.mem_iff.mp (by simp))
  have hxi : S.vars[x.natAbs]? = some (S.isV x) := by
    have : x.natAbs < S.vars.length := by rw [hv]; have := hxl.2; omega
    unfold SV.isV; rw [List.getD_eq_getElem?_getD, List.getElem?_eq_getElem this]; rfl
  obtain ⟨ob, hb1, kb, rfl⟩ := R₂.o_vars (by show 3 ≤ S.ph; omega)
  refine wpAny_isTrue_value (Subscript_ (attr_name G F₂ kf.S hm (R₂.h_vars (by show 3 ≤ S.ph; omega)) (by decide) rfl (Call_ (nmB (s := { s₂ with toks := s₂.toks + 1 }) G kf F₂ (callWith_builtin1 (args_cons (Subscript_ (Subscript_ (attr_name (s := { s₂ with toks := s₂.toks + 1 }) G F₂ kf.S hm (R₂.h_hp hph) (by decide) rfl (wpAny_Constant_int (itemList (k := 0) (listO_is g1) g2 (by rw [g3, sizeLine_eq]; show hp₃.length + 1 ≤ _; omega) (wpAny_Constant_int (itemTup g4 ?_)))))))))))))
  refine args_nil (call_abs_int fun u tk => ?_)
  have ea : (if x < 0 then -x else x) = (x.natAbs : Int) := by split <;> omega
  rw [ea]
  refine itemList (k := x.natAbs) (v := .bool (S.isV x)) (vs := S.vars.map Value.bool) (listO_is hb1) (by rw [List.getElem?_map, hxi]; rfl) (by rw [List.length_map, hv, sizeLine_eq]; omega) (wpAny_truthy_bool ?_)
  have hu : ∀ {env : Env}, (A.deeper env).units + 40 < cLine := fun {env} => by have := rm.un; show A.units + 3 + 40 < _; omega
  have hP5 : ∀ b, b = adr .hp → D b := fun b z => z ▸ R.sub .hp hph
  cases hvx : S.isV x with
  | false =>
    rw [if_neg (by decide)]
    refine wpAny_execs_nil ?_
    refine wpAny_execs_cons (wpAny_Return_some (Subscript_ (Call_ (nmK (s := { s₂ with toks := tk }) G F₂ kf.gPop (callWith_builtin1 (id := "_heapq.heappop") (args_cons (attr_name (s := { s₂ with toks := tk }) G F₂ kf.S hm (R₂.h_hp hph) (by decide) rfl (args_nil ?_))))))))
    refine rep_pop (s := { s₂ with toks := tk + 1 }) R₂ hph rfl (by show hp₃.length + 1 < 10000; omega) hu fun s₃ b' i' t₁ t₂ hp₄ p₄ R₃ e₃ hb' => ?_
    refine wpAny_Constant_int (itemTup hb' ?_)
    have p5 : (pop ++ x :: hp₄).Perm S.hp := ((List.Perm.append_left pop p₄).trans hperm)
    have e3 : Eff D s s₃ := (⟨e2.keep, e2.gens, e2.os⟩ : Eff D s { s₂ with toks := tk + 1 }).same (e₃.sub hP5)
    exact hq { s₃ with toks := s₃.toks + 1 } x hp₄ t₂ (.some hpop hvx p5) R₃ ⟨e3.keep, e3.gens, e3.os⟩
  | true =>
    rw [if_pos rfl]
    refine wpAny_execs_cons (wpAny_Expr_any (Call_ (nmK (s := { s₂ with toks := tk }) G F₂ kf.gPop (callWith_builtin1 (id := "_heapq.heappop") (args_cons (attr_name (s := { s₂ with toks := tk }) G F₂ kf.S hm (R₂.h_hp hph) (by decide) rfl (args_nil ?_)))))))
    refine rep_pop (s := { s₂ with toks := tk + 1 }) R₂ hph rfl (by show hp₃.length + 1 < 10000; omega) hu fun s₃ b' i' t₁ t₂ hp₄ p₄ R₃ e₃ hb' => ?_
    have e3 : Eff D s s₃ := (⟨e2.keep, e2.gens, e2.os⟩ : Eff D s { s₂ with toks := tk + 1 }).same (e₃.sub hP5)
    have F₃ := Fr_eff' (s := { s₂ with toks := tk + 1 }) F₂ e₃ (fun z => hLD (hP5 _ z)) hP5 hB
    have hl4 : hp₄.length = hp₃.length := by have := p₄.length_eq; simpa using this
    obtain ⟨oh', h1', as', k', rfl, f'⟩ := R₃.o_hp hph
    have hlen' := f'.length
    refine wpAny_execs_cons (wpAny_If (wpAny_isTrue_Compare1 (Call_ (nmB G kf F₃ (callWith_builtin1 (id := "len") (args_cons (attr_name G F₃ kf.S hm (R₃.h_hp hph) (by decide) rfl (args_nil ?_))))))))
    refine call_len_list (s := { s₃ with toks := s₃.toks + 1 }) (listO_is h1') (by rw [List.size_toArray, List.length_map, hlen']; show (hp₄.length : Int) < _; omega) ?_
    refine wpAny_Constant_int (P.eq_int (wpAny_truthy_bool ?_))
    rw [List.size_toArray, List.length_map, hlen']
    have e4 : ∀ tk, Eff D s { s₃ with toks := tk } := fun tk => ⟨e3.keep, e3.gens, e3.os⟩
    have p5 : ((pop ++ [x]) ++ hp₄).Perm S.hp := by rw [List.append_assoc]; exact ((List.Perm.append_left pop p₄).trans hperm)
    have hpop' : ∀ y ∈ pop ++ [x], S.isV y = true := fun y hy => by
      rcases List.mem_append.mp hy with q | q
      · exact hpop y q
      · rw [List.mem_singleton] at q; subst q; exact hvx
    by_cases hem' : hp₄ = []
    · subst hem'
      rw [if_pos (by rfl)]
      refine wpAny_execs_cons (wpAny_Return_some (wpAny_Constant_int ?_))
      exact hq _ 0 [] _ (.none fun y hy => hpop' y (by simpa using p5.mem_iff.mpr hy)) R₃ ⟨e3.keep, e3.gens, e3.os⟩
    · rw [if_neg (by rw [Bool.not_eq_true, beq_eq_false_iff_ne]; intro z; exact hem' (List.length_eq_zero_iff.mp (by have z' : ((hp₄.length : Nat) : Int) = 0 := z; omega)))]
      exact wpAny_execs_nil (wpAny_execs_nil ⟨hp₄.length, by rw [hl4]; simp at hln; omega, _, pop ++ [x], hp₄, F₃, hm, hem', Nat.le_refl _, p5, hpop', R₃, ⟨e3.keep, e3.gens, e3.os⟩⟩)
end
end Dp
end
section
open PySem PySem.W PySem.Calls PyProof.Rows
namespace Dp
def Nm (env : Env) (h : Heap) (x : Str) (v : Value) : Prop := (x == ("__debug__" : Str)) = false ∧ ∀ {M : Model} {A : Around} {E : Value → Shared → Prop} {s : Shared} {Q : Value → Shared → Prop}, s.heap = h → Q v s → wpAny M A (loadName env x) Q E s
section
variable {M : Model} {prog : Program} {w : World} {K : Frag} {B : Heap} {A : Around} {E : Value → Shared → Prop} {s s' s₁ s₂ : Shared} {L a l x C : Addr} {m : Str → Option Value} {adr : Role → Addr} {D D₁ D₂ P : Addr → Prop} {S S' : SV} {cn : Str} {cs : Scope} {cd : Value} {h h' : Heap} {env : Env}
theorem Nm.name {x : Str} {v : Value} {pos : Pos} {Q : Value → Shared → Prop} (n : Nm env s.heap x v) (q : Q v s) : wpAny M A (eval (.Name x pos) env) Q E s := wpAny_Name (n.2 rfl q) n.1
theorem Nm.loc {x : Str} {v : Value} {m : Str → Option Value} (F : h.Ns env.locals m) (hv : m x = some v) (hk : env.scope.kind = .function := by rfl) (hl : env.kindOf x = some .local := by rfl) (hd : (x == ("__debug__" : Str)) = false := by decide) : Nm env h x v :=
  ⟨hd, fun e q => wpAny_loadName_local hk hl (by rw [e]; exact F) hv q⟩
theorem Nm.cell {x : Str} {v : Value} {c : Addr} (hv : h.IsCell c (some v)) (hc : env.cells.lookup x = some c) (hk : env.scope.kind = .function := by rfl) (hl : env.kindOf x = some .cell := by rfl) (hd : (x == ("__debug__" : Str)) = false := by decide) : Nm env h x v :=
  ⟨hd, fun e q => wpAny_loadName_cell hk hl hc (by rw [e]; exact hv) q⟩
theorem Nm.free {x : Str} {v : Value} {c : Addr} (hv : h.IsCell c (some v)) (hc : env.cells.lookup x = some c) (hk : env.scope.kind = .function := by rfl) (hl : env.kindOf x = some .free := by rfl) (hd : (x == ("__debug__" : Str)) = false := by decide) (hn : (x == ("__classdict__" : Str)) = false := by decide) : Nm env h x v :=
  ⟨hd, fun e q => wpAny_loadName_free hk hl hc (by rw [e]; exact hv) q hn⟩
theorem cells0 : ∀ {names : List (Str × NameKind)}, (∀ x ∈ names, x.2 ≠ .cell) → ∀ (h : Heap) (n : Nat) (cl : List (Str × Addr)), pushCells h names = h ∧ cellsFrom n names cl = cl
  | [], _, h, n, cl => ⟨rfl, rfl⟩
  | (x, k) :: r, hn, h, n, cl => by
    have hk : (k == NameKind.cell) = false := by simpa using hn (x, k) (by simp)
    unfold pushCells cellsFrom
    rw [hk]
    exact cells0 (fun y hy => hn y (by simp [hy])) h n cl
theorem new_comp_env {scope : Scope} {cl : List (Str × Addr)} {Q : Env → Shared → Prop}
    (hQ : Q { scope, locals := s.heap.objs.size, globals := env.globals, cells := cellsFrom (s.heap.objs.size + 1) scope.names cl, qual := env.qual, func := none, code := env.code, frame := env.frame, builtins := env.builtins }
      { s with heap := pushCells (s.heap.push { cls := .type "dict", data := .dict #[] }) scope.names }) :
    wpAny M A (newFunctionEnv scope env.globals cl [] env.qual none .none (some env)) Q E s := by
  simp only [newFunctionEnv, Option.isSome_some, if_true]
  refine wpAny_bind (wpAny_alloc ?_)
  refine wpAny_bind (wpAny_layCells _ (fun name kind cells => by cases hkc : kind == NameKind.cell <;> simp [hkc]) _ _ _ _ ?_)
  rw [show ({ s with heap := s.heap.push { cls := .type "dict", data := .dict #[] } } : Shared).heap.objs.size = s.heap.objs.size + 1 from Heap.size_push ..]
  exact wpAny_bind (wpAny_pure (wpAny_pure hQ))
abbrev dict0 : Obj := { cls := .type "dict", data := .dict #[] }
abbrev cell0 : Obj := { cls := .type "cell", data := .cell none }
def cEnv (scope : Scope) (cl : List (Str × Addr)) (C : Addr) (env : Env) : Env := compEnvC scope (cellsFrom (C + 1) scope.names cl) C env
theorem newList_nil {Q : Value → Shared → Prop} (hq : ∀ s' b, s.heap.get? b = none → s'.heap.get? b = some (listO #[] 0) → Eff No s s' → Q (.ref b) s') : wpAny (model prog w) A (newList []) Q E s :=
  wpAny_newObj_type (hq _ s.heap.objs.size (by
    cases q : s.heap.get? s.heap.objs.size with
    | none => rfl
    | some ob => exact absurd (Heap.lt_size q) (Nat.lt_irrefl _)) (Heap.get?_push_size _ rfl) ⟨fun b o _ e => Heap.get?_push_of_some _ e, rfl, rfl⟩) (by show (0:Nat) ≤ sizeLine; rw [sizeLine_eq]; omega)
theorem lcomp {α : Type} {V : α → Value → Prop} {elt iter : PySem.Expr} {x : Str} {px : Pos} {ifs : List PySem.Expr} {scope : Scope} {pos : Pos} {p0 : Pos} {cl : List (Str × Addr)} {use : Option (Value → Sem Unit)} {first : Sem Value} {Q : Value → Shared → Prop} (hh : A.handled = none)
    (hclos : closureFor scope env = pure cl) (hkind : scope.kind = .function) (hnames : ∀ x ∈ scope.names, x.2 = .local → scope.names.lookup x.1 = some .local)
    (hs : ∀ x, foldedSetIterable iter env x = pure x)
    (h : wpAny (model prog w) A first (fun xv s₁ => wpAny (model prog w) A (pyIter xv) (fun itv s₂ => ∃ it tmp dep T xs, itv = .ref it ∧ Iter prog w V tmp dep it T ∧ T xs s₂.heap ∧
      ∀ b C, s₂.heap.get? b = none → s₂.heap.get? C = none → b ≠ C → ∀ s₃, Eff No s₂ s₃ → s₃.heap = pushCells ((s₂.heap.push (listO #[] 0)).push dict0) scope.names → C = s₂.heap.objs.size + 1 → b = s₂.heap.objs.size →
        ∃ I : List α → List Value → Shared → Prop, I xs [] s₃ ∧
        (∀ y r ys s s₁ v m k, I (y :: r) ys s → V y v → Eff (fun b => b = it) s s₁ → s₁.heap.Ns C m → (∀ b ∈ tmp, ∃ o, s₁.heap.get? b = some o) → s₁.heap.get? b = some (listO ys.toArray k) →
          wpAny (model prog w) A (assign (.Name x px) (cEnv scope cl C env) v) (fun _ s₂ =>
            wpAny (model prog w) A (forIn ifs true fun c r => if r = true then do let ok ← isTrue c (cEnv scope cl C env) (eval c (cEnv scope cl C env)); pure (ForInStep.yield ok) else pure (ForInStep.yield r)) (fun ok s₃ =>
              if ok = true then wpAny (model prog w) A (eval elt (cEnv scope cl C env)) (fun yv s₄ => ∃ P m, Eff P s₁ s₄ ∧ (∀ x, x ∈ tmp ∨ x ∈ dep ∨ x = b → ¬ P x) ∧ s₄.heap.Ns C m ∧ ys.length < sizeLine ∧ ∀ s₅, Eff (fun x => x = b) s₄ s₅ → I r (ys ++ [yv]) s₅) (fun _ _ => False) s₃
              else ∃ P m, Eff P s₁ s₃ ∧ (∀ x, x ∈ tmp ∨ x ∈ dep ∨ x = b → ¬ P x) ∧ s₃.heap.Ns C m ∧ I r ys s₃) (fun _ _ => False) s₂) (fun _ _ => False) s₁) ∧
        (∀ ys s s' k, I [] ys s → Eff (fun b => b = it) s s' → s'.heap.get? b = some (listO ys.toArray k) → (∃ m, s'.heap.Ns C m) → compPost (model prog w) A E use Q (.ref b) C (.ok .next) s') ∧ C ∉ dep ∧ b ∉ dep) E s₁) E s) :
    wpAny (model prog w) A (comprehension (.ListComp elt [⟨.Name x px, iter, ifs, 0⟩] scope pos) scope env p0 (newList []) false first use) Q E s := by
  refine wpAny_comprehension_free rfl hs hclos hkind hnames (wpAny_mono h (fun xv s₁ h₁ => wpAny_mono h₁ (fun itv s₂ h₂ => ?_) fun _ _ x => x) fun _ _ x => x)
  obtain ⟨it, tmp, dep, T, xs, rfl, IT, hT, hb⟩ := h₂
  refine wpAny_newObj_type ?_ (by show (0:Nat) ≤ sizeLine; rw [sizeLine_eq]; omega)
  refine new_comp_env ?_
  have hbn : s₂.heap.get? s₂.heap.objs.size = none := new_none
  have hCs : (s₂.heap.push (listO #[] 0)).objs.size = s₂.heap.objs.size + 1 := Heap.size_push ..
  have hCn : s₂.heap.get? (s₂.heap.objs.size + 1) = none := by
    cases q : s₂.heap.get? (s₂.heap.objs.size + 1) with
    | none => rfl
    | some ob => exact absurd (Heap.lt_size q) (Nat.not_lt.mpr (Nat.le_succ _))
  have hkeep : ∀ b o, s₂.heap.get? b = some o → (pushCells ((s₂.heap.push (listO #[] 0)).push dict0) scope.names).get? b = some o := fun b o e => pushCells_keeps _ _ _ _ (Heap.get?_push_of_some _ (Heap.get?_push_of_some _ e))
  have hb0 : (pushCells ((s₂.heap.push (listO #[] 0)).push dict0) scope.names).get? s₂.heap.objs.size = some (listO #[] 0) := pushCells_keeps _ _ _ _ (Heap.get?_push_of_some _ (Heap.get?_push_size _ rfl))
  have hC0 : (pushCells ((s₂.heap.push (listO #[] 0)).push dict0) scope.names).Ns (s₂.heap.objs.size + 1) fun _ => none := by
    have := (Heap.Ns.new (s₂.heap.push (listO #[] 0)) (.type "dict")).keeps (pushCells_keeps scope.names _)
    rwa [hCs] at this
  obtain ⟨I, hI, step, done, hCd, hbd⟩ := hb s₂.heap.objs.size (s₂.heap.objs.size + 1) hbn hCn (Nat.ne_of_lt (Nat.lt_succ_self _)) { s₂ with heap := pushCells ((s₂.heap.push (listO #[] 0)).push dict0) scope.names } ⟨fun b o _ e => hkeep b o e, rfl, rfl⟩ rfl rfl rfl
  dsimp only
  rw [hCs]
  have hlive := IT.live hT
  have hitb : ∀ t ∈ tmp, t ≠ s₂.heap.objs.size := fun t ht z => by obtain ⟨o, q⟩ := hlive t ht; rw [z, hbn] at q; cases q
  have hitC : ∀ t ∈ tmp, t ≠ s₂.heap.objs.size + 1 := fun t ht z => by obtain ⟨o, q⟩ := hlive t ht; rw [z, hCn] at q; cases q
  generalize hbb : s₂.heap.objs.size = b at *
  have loop : ∀ s₀, I xs [] s₀ → T xs s₀.heap → s₀.heap.get? b = some (listO #[] 0) → s₀.heap.Ns (b + 1) (fun _ => none) →
      codeAny (model prog w) A (.compLoop (.ListComp elt [⟨.Name x px, iter, ifs, 0⟩] scope pos) 0 (.ref it) (.ref b) (cEnv scope cl (b + 1) env)) (compPost (model prog w) A E use Q (.ref b) (b + 1)) s₀ := by
    intro s₀ hI0 hT0 hb00 hC00
    refine codeAny_compLoop_tests (fun n s => ∃ r ys m k, r.length = n ∧ I r ys s ∧ T r s.heap ∧ s.heap.get? b = some (listO ys.toArray k) ∧ s.heap.Ns (b + 1) m) (fun n s ⟨r, ys, m, k, hn, hI1, hT1, ha1, hc1⟩ => ?_) xs.length ⟨xs, [], _, 0, rfl, hI0, hT0, hb00, hC00⟩
    have hib : it ≠ b := hitb it IT.mem
    have hiC : it ≠ b + 1 := hitC it IT.mem
    cases r with
    | nil =>
      refine IT.fin hh hT1 fun h' ex => ?_
      exact done ys s _ k hI1 ⟨fun c o n e => ex c o n e, rfl, rfl⟩ (ex b _ (Ne.symm hib) ha1) ⟨m, hc1.at' fun o e => ex _ o (Ne.symm hiC) e⟩
    | cons y r =>
      refine IT.item hT1 fun h' v tk sb hv hT2 => ?_
      have ha2 : h'.get? b = some (listO ys.toArray k) := (sb.2 b (Ne.symm hib)).trans ha1
      have hc2 : h'.Ns (b + 1) m := hc1.at' fun o e => (sb.2 _ (Ne.symm hiC)).trans e
      refine wpAny_mono (noexc (step y r ys s { s with heap := h', toks := tk } v m k hI1 hv ⟨fun c o n e => (sb.2 c n).trans e, rfl, rfl⟩ hc2 (IT.live hT2) ha2)) (fun _ s₄ h4 => wpAny_mono (noexc h4) (fun ok s₅ h5 => ?_) fun _ _ x => x) fun _ _ x => x
      have stabT : ∀ {s₆ : Shared} {P : Addr → Prop}, Eff P { s with heap := h', toks := tk } s₆ → (∀ x, x ∈ tmp ∨ x ∈ dep ∨ x = b → ¬ P x) → T r s₆.heap := fun e hP => IT.stab hT2 fun c o hc q => e.keep c o (hP c (hc.elim .inl fun z => .inr (.inl z))) q
      cases ok with
      | false =>
        obtain ⟨P, m', e5, hP, hc5, hI5⟩ := h5
        exact ⟨r.length, by rw [← hn]; simp, r, ys, m', k, rfl, hI5, stabT e5 hP, e5.keep b _ (hP b (.inr (.inr rfl))) ha2, hc5⟩
      | true =>
        refine wpAny_mono (noexc h5) (fun yv s₆ ⟨P, m', e6, hP, hc6, hz, hI6⟩ => ?_) fun _ _ x => x
        refine list_push (e6.keep b _ (hP b (.inr (.inr rfl))) ha2) (by rw [List.size_toArray]; omega) fun h₇ k₇ sb₇ ho₇ => ?_
        refine ⟨r.length, by rw [← hn]; simp, r, ys ++ [yv], m', k₇, rfl, hI6 _ (sb_eff (tk := s₆.toks) sb₇ rfl), ?_, by rw [ho₇]; simp, hc6.at' fun o e => (sb₇.2 _ (Nat.succ_ne_self b)).trans e⟩
        exact IT.stab (stabT e6 hP) fun c o hc q => (sb₇.2 c (by
          rintro rfl
          rcases hc with hc | hc
          · exact hitb _ hc rfl
          · exact hbd hc)).trans q
  have hT3 : T xs (pushCells ((s₂.heap.push (listO #[] 0)).push dict0) scope.names) := IT.stab hT fun c o _ q => hkeep c o q
  exact codeAny_compStart_list (loop _ hI hT3 hb0 hC0) (IT.self hT3 (loop _ hI hT3 hb0 hC0))
end
end Dp
end
section
open PySem PySem.W PySem.Calls PyProof.Rows
namespace Dp
section
variable {prog : Program} {w : World} {K : Frag} {B : Heap} {A : Around} {E : Value → Shared → Prop} {s s' s₁ s₂ : Shared} {L a l x C : Addr} {m : Str → Option Value} {adr : Role → Addr} {D D₁ D₂ P : Addr → Prop} {S S' : SV} {cn : Str} {cs : Scope} {cd : Value} {h h' : Heap} {env : Env}
theorem f2_map {α β : Type} (f : α → β) (l : List α) : F2 (fun a b => b = f a) l (l.map f) := by
  induction l with
  | nil => exact .nil
  | cons a r ih => exact .cons rfl ih
theorem eff_new {P : Addr → Prop} {s s' s'' : Shared} (x : Eff No s s') (y : Eff P s' s'') (g : ∀ b, P b → s.heap.get? b = none) : Eff No s s'' := x.trans y fun b hb => .inr (g b hb)
theorem Rep.lattr (R : Rep prog w B D adr S h) (hph : 8 ≤ S.ph) {i : Nat} {lv : LV} (hi : S.lvs[i]? = some lv) : ∃ t, HasAttr h lv.ob 229 "decision" (.int lv.dec t) ∧ HasAttr h lv.ob 229 "flipped" (.bool lv.flip) ∧ HasAttr h lv.ob 229 "var_settings" (.ref (adr (.lset i))) := by
  obtain ⟨ol, h1, k, rfl, hlv⟩ := R.o_lvs hph
  obtain ⟨z1, es, k', f, tt, z2, hd, hdec, hfl, hset⟩ := hlv i lv hi
  have I : InstAt h lv.ob (instObj 229 lv.dc) 229 (some (dictOf es k')) := ⟨z1.2.2, rfl, rfl, z2.2.2⟩
  exact ⟨tt, ⟨_, es, k', I, by rw [hd]; exact congrArg some hdec⟩, ⟨_, es, k', I, by rw [hd]; exact congrArg some hfl⟩, ⟨_, es, k', I, by rw [hd]; exact congrArg some hset⟩⟩
theorem slice1 {l : Addr} {vs : List Value} {value : PySem.Expr} {p p' : Pos} {k : Nat} {Q : Value → Shared → Prop} (hl : s.heap.IsList l vs.toArray) (hz : vs.length ≤ 1000)
    (hq : ∀ s' d, Eff No s s' → s.heap.get? d = none → s'.heap.get? d = some (listO (vs.drop 1).toArray 0) → Q (.ref d) s')
    (hs : ∀ i, subscripted (.Slice (some (.Constant (.int 1) k p)) none none p') false (.ref l) (.ref i) = operate [.ref i, .ref l] (getItem (.ref l) (.ref i)) := by intro i; with_unfolding_all rfl) :
    wpAny (model prog w) A (eval (.Slice (some (.Constant (.int 1) k p)) none none p') env) (fun i s₂ => wpAny (model prog w) A (subscriptTail value (.Slice (some (.Constant (.int 1) k p)) none none p') (.ref l) i) Q E s₂) E s := by
  refine wpAny_Slice ?_
  rw [evalPart_some]
  refine wpAny_Constant_int ?_
  rw [evalPart_none]
  refine wpAny_pure (wpAny_pure ?_)
  refine tail_any (T := "list") (hl.push _).typeIs slot_list_getitem.lookup ?_ (hs _)
  refine wpAny_getItem_list_slice (lo := some 1) (hi := none) (st := none) (hl.push _) (Heap.IsSliceOf.new ..) (.int 1 _) .none .none (by decide) ?_ (by rw [List.size_toArray, sizeLine_eq]; omega)
  refine hq _ _ ⟨fun b o _ e => Heap.get?_push_of_some _ (Heap.get?_push_of_some _ e), rfl, rfl⟩ ?_ (by
    have e := slicePick_from' vs.toArray 1
    have : (slicePick vs.toArray (some 1) none none) = (vs.drop 1).toArray := by rw [show (some (1 : Int)) = some ((1 : Nat) : Int) from rfl, e]
    rw [this]; exact Heap.get?_push_size _ rfl)
  cases q : s.heap.get? (s.heap.push _).objs.size with
  | none => rfl
  | some ob => exact absurd (Heap.lt_size q) (by rw [Heap.size_push]; exact Nat.not_lt.mpr (Nat.le_succ _))
set_option maxHeartbeats 1000000 in
theorem call_conflict {Rr : Result → Shared → Prop} (G : Bas w K B) (kf : KF K) (o : On B s.heap) (R : Rep prog w B D adr S s.heap) (rm : Rm A 2) (hph : 8 ≤ S.ph) (hlz : S.lvs.length ≤ 100)
    (hq : ∀ s' b vs k, Eff No s s' → s.heap.get? b = none → s'.heap.get? b = some (listO vs.toArray k) → IntsAre vs ((S.lvs.drop 1).map fun lv => -lv.dec) → Rr (.ok (.ret (.ref b))) s') :
    codeAny (model prog w) A (.call (.ref 197) ⟨[.ref (adr .slf)], []⟩) Rr s := by
  obtain ⟨pm, ho⟩ := kf.fSC.fn.at_
  refine call_fn (binds := [("self", .ref (adr .slf))]) G o ho kf.fSC.fn.code rm.room (BindsTo.of_eq rfl) (locs rfl) (fun h₁ L F hL hk => ?_)
  have R₁ := R.keep hk
  obtain ⟨ol, h1, k, rfl, hlv⟩ := R₁.o_lvs hph
  refine wpAny_execs_cons (wpAny_Return_some ?_)
  rw [eval_ListComp]
  refine lcomp (V := fun (lv : LV) v => v = .ref lv.ob) (cl := []) rm.deeper.hh (closureFor_none (by decide)) rfl (by decide) (by intro _; rfl) ?_
  have hls : Heap.IsList h₁ (adr .lvs) (S.lvs.map fun lv => Value.ref lv.ob).toArray := listO_is h1
  refine Subscript_ (attr_name G F kf.S rfl (R₁.h_lvs hph) (by decide) rfl (slice1 hls (by rw [List.length_map]; omega) fun s₂ d e₂ hd hd2 => ?_))
  have e2 : Eff No s s₂ := ⟨fun b o n q => e₂.keep b o n (hk b o q), e₂.gens, e₂.os⟩
  refine iter_list (V := fun (lv : LV) v => v = .ref lv.ob) (xs := S.lvs.drop 1) (listO_is hd2) (by rw [← List.map_drop]; exact f2_map _ _) fun s₃ it T e₃ hit IT hT => ?_
  have e3 : Eff No s s₃ := e2.same e₃
  have hdn : s.heap.get? d = none := (⟨fun b o _ q => hk b o q, rfl, rfl⟩ : Eff No s ⟨h₁, s.gens, s.drawn, s.toks, s.os⟩).none hd
  have hitn : s.heap.get? it = none := e2.none hit
  refine ⟨it, [it], [d], T, _, rfl, IT, hT, fun b C hb hC hbC s₄ e₄ hp4 hCe hbe => ?_⟩
  have e4 := e3.same e₄
  have hbn := e3.none hb
  have hCn := e3.none hC
  have hd3 : s₃.heap.get? d = some (listO ((S.lvs.map fun lv => Value.ref lv.ob).drop 1).toArray 0) := e₃.all hd2
  refine ⟨fun r ys s' => ∃ done, done ++ r = S.lvs.drop 1 ∧ IntsAre ys (done.map fun lv => -lv.dec) ∧ Eff No s s' ∧ Fr B L s'.heap _, ⟨[], rfl, .nil, e4, Fr_no (Fr_no (s := ⟨h₁, s.gens, s.drawn, s.toks + 1 + 1, s.os⟩) F e₂) (e₃.same e₄)⟩, ?_, ?_, ?_, ?_⟩
  · rintro y r ys s₅ s₆ v m k ⟨done, hdone, hi, e5, F5⟩ rfl e6 hC6 - hacc
    have hitL : it ≠ L := fun z => by obtain ⟨ob, q⟩ := Fr_live F; have h2 := e₂.all q; rw [← z, hit] at h2; cases h2
    have hCL : C ≠ L := fun z => by obtain ⟨ob, q⟩ := Fr_live F; have := e₃.all (e₂.all q); rw [z] at hC; rw [hC] at this; cases this
    have e6' : Eff No s s₆ := eff_new e5 e6 fun x z => by rw [z]; exact hitn
    have F6 := Fr_eff F5 e6 (fun z => hitL z.symm) (fun b' o' q z => by rw [z, o.none hitn] at q; cases q)
    refine wpAny_assign_Name (wpAny_storeName_local (by rfl) hC6 (fun h₇ hn7 sb₇ => ?_) (by rfl))
    refine wpAny_tests_nil ?_
    rw [if_pos rfl]
    have e67 : Eff (fun x => x = C) s₆ { s₆ with heap := h₇, toks := s₆.toks + 1 } := sb_eff sb₇ rfl
    have e7 : Eff No s { s₆ with heap := h₇, toks := s₆.toks + 1 } := eff_new e6' e67 fun x z => by rw [z]; exact hCn
    have F7 := Fr_eff F6 e67 (fun z => hCL z.symm) (fun b' o' q z => by rw [z, o.none hCn] at q; cases q)
    have R7 : Rep prog w B D adr S h₇ := R.keep fun b o q => e7.all q
    obtain ⟨i, hi'⟩ : ∃ i, S.lvs[i]? = some y := List.getElem?_of_mem (List.mem_of_mem_drop (by rw [← hdone]; simp))
    obtain ⟨t, ha1, _, _⟩ := R7.lattr hph hi'
    refine UnaryOp_ (Attribute_any_ ((Nm.loc hn7 (if_pos rfl)).name (getAttr_has (s := { s₆ with heap := h₇, toks := s₆.toks + 1 }) G F7 kf.Lv ha1 (by decide) rfl (P.neg_int ?_))))
    refine ⟨fun x => x = C, _, ⟨e67.keep, e67.gens, e67.os⟩, ?_, hn7, ?_, fun s₈ e₈ => ⟨done ++ [y], by rw [List.append_assoc]; exact hdone, ?_, eff_new e7 ⟨e₈.keep, e₈.gens, e₈.os⟩ fun x z => by rw [z]; exact hbn, ?_⟩⟩
    · rintro x (hx | hx | hx) z
      · rw [List.mem_singleton] at hx; rw [hx] at z
        rw [← z] at hC
        have := IT.live hT it IT.mem
        obtain ⟨ob, q⟩ := this; rw [hC] at q; cases q
      · rw [List.mem_singleton] at hx; rw [hx] at z
        rw [← z] at hC; rw [hC] at hd3; cases hd3
      · exact hbC (hx.symm.trans z)
    · have := hi.length; rw [this, List.length_map, sizeLine_eq]
      have : done.length ≤ S.lvs.length := by have := congrArg List.length hdone; simp at this; omega
      omega
    · rw [List.map_append]; exact hi.append (.cons _ _ .nil)
    · have hbL : b ≠ L := fun z => by obtain ⟨ob, q⟩ := Fr_live F; have := e₃.all (e₂.all q); rw [z] at hb; rw [hb] at this; cases this
      exact Fr_eff (s := { s₆ with heap := h₇, toks := s₆.toks + 1 }) F7 ⟨e₈.keep, e₈.gens, e₈.os⟩ (fun z => hbL z.symm) (fun b' o' q z => by rw [z, o.none hbn] at q; cases q)
  · rintro ys s₅ s₆ k ⟨done, hdone, hi, e5, F5⟩ e6 hacc ⟨m, hm⟩
    rw [List.append_nil] at hdone; subst hdone
    refine ⟨m, hm, fun h' sb => ?_⟩
    refine hq { s₆ with heap := h' } b ys k ?_ hbn ((sb.2 b hbC).trans hacc) hi
    exact eff_new (eff_new e5 e6 fun x z => by rw [z]; exact hitn) (sb_eff (P := fun x => x = C) (tk := s₆.toks) sb rfl) fun x z => by rw [show x = C from z]; exact hCn
  · intro z; rw [List.mem_singleton] at z; rw [z] at hC; rw [hC] at hd3; cases hd3
  · intro z; rw [List.mem_singleton] at z; rw [z] at hb; rw [hb] at hd3; cases hd3
end
end Dp
end
section
open PySem PySem.W PySem.Calls PyProof.Rows
namespace Dp
def learnS (S : SV) (cl : List Int) (a z : Int) : SV :=
  { S with cls := S.cls ++ [cl], sent := updI (updI S.sent a (addI (S.sent a) S.cls.length)) z (addI (updI S.sent a (addI (S.sent a) S.cls.length) z) S.cls.length) }
section
variable {prog : Program} {w : World} {K : Frag} {B : Heap} {A : Around} {E : Value → Shared → Prop} {s s' s₁ s₂ : Shared} {L a l x C : Addr} {m : Str → Option Value} {adr : Role → Addr} {D D₁ D₂ P : Addr → Prop} {S S' : SV} {cn : Str} {cs : Scope} {cd : Value} {h h' : Heap} {env : Env}
theorem bump {a : Addr} {o : Obj} {ks : List Int} {k : Int} {u : Tok} {nv n attr : Str} {at_ : List Str} {xo C : Addr} {pv pn p1 p2 p3 pos : Pos} {kk : Nat} {Q : Flow → Shared → Prop} (G : Bas w K B) (F : Fr B L s.heap m) (c : ClsAt K C at_) (hm : m n = some (.ref xo)) (H : HasAttr s.heap xo C attr (.ref a)) (hn : attr ∈ at_)
    (hv : m nv = some (.int k u)) (ho : s.heap.get? a = some o) (x : KMap prog w o ks fun _ => IsIntV) (hk : k ∈ ks) (hz : ks.length ≤ 1000)
    (hq : ∀ s' o', s'.heap.get? a = some o' → KMap prog w o' ks (fun _ => IsIntV) → Heap.SameBut a s.heap s'.heap → Eff (fun b => b = a) s s' → Q .next s')
    (hkf : cs.kind = .function := by rfl) (hl : (envOf cn cs L l cd).kindOf n = some .local := by rfl) (hd : (n == ("__debug__" : Str)) = false := by decide) (hlv : (envOf cn cs L l cd).kindOf nv = some .local := by rfl) (hdv : (nv == ("__debug__" : Str)) = false := by decide)
    (hA : ∀ (pos : Pos), eval (.Attribute (.Name n pn) attr pos) (envOf cn cs L l cd) = (do
      let o ← eval (.Name n pn) (envOf cn cs L l cd)
      standAt pos.atName
      let r ← holding [o] (getAttr o attr true)
      letTemporaryGo (.Name n pn) o r
      pure r) := by intros; with_unfolding_all rfl) :
    wpAny (model prog w) A (exec (.AugAssign (.Subscript (.Attribute (.Name n pn) attr p1) (.Name nv pv) p2) .Add (.Constant (.int 1) kk p3) pos) (envOf cn cs L l cd)) Q E s := by
  refine wpAny_AugAssign_Subscript (attr_name G F c hm H hn rfl (ld F hv ?_ hkf hlv hdv) hkf hl hd (hA _))
  obtain ⟨kvs, v, d, e, hv'⟩ := x.at ho hk
  refine wpAny_getItem_of (intKind_is _ _ _ _) d.mapOf e ?_
  obtain ⟨i, t, rfl⟩ := hv'
  refine wpAny_Constant_int (wpAny_iadd_int ?_)
  refine map_set ho x hk ⟨_, _, rfl⟩ hz fun h' o' sb ho' x' => ?_
  exact hq _ o' ho' x' sb ⟨fun b o n q => (sb.2 b n).trans q, rfl, rfl⟩
theorem call_clause_added {b : Addr} {vs : List Value} {cl : List Int} {kb : Nat} {Rr : Result → Shared → Prop} (G : Bas w K B) (kf : KF K) (o : On B s.heap) (R : Rep prog w B D adr S s.heap) (rm : Rm A 1) (hph : 10 ≤ S.ph) (hph2 : S.ph ≤ 20)
    (hb : D b) (hbo : ¬ ownOf adr S b) (hbl : s.heap.get? b = some (listO vs.toArray kb)) (hi : IntsAre vs cl) (hcl : ∀ x ∈ cl, x ∈ S.sk) (hz : S.sk.length ≤ 1000)
    (hq : ∀ s', Rep prog w B D adr S s'.heap → Eff D s s' → Rr (.ok (.ret .none)) s') :
    codeAny (model prog w) A (.call (.ref 185) ⟨[.ref (adr .slf), .ref b], []⟩) Rr s := by
  obtain ⟨pm, ho⟩ := kf.fVCA.fn.at_
  refine call_fn (binds := [("self", .ref (adr .slf)), ("cls", .ref b)]) G o ho kf.fVCA.fn.code rm.room (BindsTo.of_eq rfl) (locs rfl) (fun h₁ L F hL hk => ?_)
  have R₁ := R.keep hk
  have hLD : ¬ D L := R.new hL
  have hB := R.off
  obtain ⟨i, t, hn⟩ := R₁.h_n2 hph
  refine wpAny_execs_cons (wpAny_AugAssign_AttributeAny (ld F rfl (getAttr_has G F kf.S hn (by decide) rfl (wpAny_Constant_int (wpAny_iadd_int ?_)))))
  refine set_num (s := ⟨h₁, s.gens, s.drawn, s.toks + 2 + 1 + 1 + 1, s.os⟩) G (frOn F) kf.S R₁ hph2 hph (.inr rfl) fun s₂ R₂ e₂ => ?_
  have hdD : ∀ b, b = adr .dct → D b := fun b z => z ▸ R.sub .dct trivial
  have F₂ := Fr_eff' (s := ⟨h₁, s.gens, s.drawn, s.toks + 2 + 1 + 1 + 1, s.os⟩) F e₂ (fun z => hLD (hdD _ z)) hdD hB
  have e2 : Eff D s s₂ := ⟨fun b o n q => e₂.keep b o (fun z => n (hdD b z)) (hk b o q), e₂.gens, e₂.os⟩
  have hbd : b ≠ adr .dct := fun z => hbo ⟨.dct, trivial, z.symm⟩
  have hb2 : s₂.heap.get? b = some (listO vs.toArray kb) := e₂.keep b _ hbd (hk _ _ hbl)
  refine wpAny_execs_cons (wpAny_For (ld F₂ rfl ?_))
  refine iter_list (listO_is hb2) (ints_f2 hi) fun s₃ it T e₃ hit IT hT => ?_
  have e3 : Eff D s s₃ := e2.same e₃.no
  have hitD : ¬ D it := R₂.new hit
  have hits : s.heap.get? it = none := Eff_fresh e2 hit hitD
  have hitL : it ≠ L := fun z => by subst z; obtain ⟨o, q⟩ := Fr_live F₂; rw [q] at hit; cases hit
  have hbL : b ≠ L := fun z => hLD (z ▸ hb)
  have hsd : S.live .sdic := by show 6 ≤ S.ph; omega
  refine loop_iter (prog := prog) (w := w) (B := B) rm.deeper.hh IT (by simpa using Ne.symm hitL) (by simpa using Ne.symm hbL) (fun b hb => by rw [List.mem_singleton] at hb; subst hb; exact o.none hits)
    (fun rem m' s' => m' "self" = some (.ref (adr .slf)) ∧ (∀ x ∈ rem, x ∈ S.sk) ∧ Rep prog w B D adr S s'.heap ∧ Eff D s s') ⟨rfl, hcl, R₂.keep fun b o q => e₃.all q, e3⟩ (Fr_no F₂ e₃) hT ?_ ?_
  · rintro y rem m₄ s₄ s₅ v ⟨hm, hrem, R₄, e4⟩ ⟨tk, rfl⟩ F₅ e₅ _
    have e5 : Eff D s s₅ := e4.new e₅ fun b hb => by rcases hb with rfl | rfl; exact hits; exact hL
    have R₅ := R₄.eff e₅ fun b hb => by rcases hb with rfl | rfl; exact hitD; exact hLD
    have hm5 : (fun z => if z = Str.ofString "lit" then some (Value.int y tk) else m₄ z) "self" = some (.ref (adr .slf)) := by rw [← hm]; exact if_neg (by decide)
    obtain ⟨od, h1, h2⟩ := R₅.o_sdic (by omega)
    refine wpAny_execs_cons (bump G F₅ kf.S hm5 (R₅.h_sdic (by omega)) (by decide) rfl h1 h2 (hrem y (by simp)) hz fun s₆ o₆ g₆ x₆ sb₆ e₆ => ?_)
    have hP : ∀ b, b = adr .sdic → D b := fun b z => z ▸ R₅.sub .sdic hsd
    have R₆ := R₅.u_sdic (by omega) sb₆ g₆ x₆
    have F₆ := Fr_eff' F₅ e₆ (fun z => hLD (hP _ z)) hP hB
    refine wpAny_execs_nil ⟨_, _, F₆, ⟨hm5, fun x hx => hrem x (by simp [hx]), R₆, e5.same (e₆.sub hP)⟩, e₆, ?_⟩
    rintro c (hc | hc) z
    · rw [List.mem_singleton] at hc; exact hitD (hc ▸ hP c z)
    · rw [List.mem_singleton] at hc; exact hbo ⟨.sdic, hsd, by rw [← hc, z]⟩
  · rintro m₄ s₄ s₅ ⟨hm, -, R₄, e4⟩ F₅ e₅
    exact wpAny_execs_nil (hq s₅ (R₄.eff e₅ fun b hb => hb ▸ hitD) (e4.new e₅ fun b hb => hb ▸ hits))
end
end Dp
end
section
open PySem PySem.W PySem.Calls PyProof.Rows
namespace Dp
section
variable {prog : Program} {w : World} {K : Frag} {B : Heap} {A : Around} {E : Value → Shared → Prop} {s s' s₁ s₂ : Shared} {L a l x C : Addr} {m : Str → Option Value} {adr : Role → Addr} {D D₁ D₂ P : Addr → Prop} {S S' : SV} {cn : Str} {cs : Scope} {cd : Value} {h h' : Heap} {env : Env}
theorem ints_ref {vs : List Value} {ns : List Int} (x : IntsAre vs ns) {i : Nat} {n : Int} (e : ns[i]? = some n) : ∃ t, vs[i]? = some (.int n t) := by
  induction x generalizing i with
  | nil => simp at e
  | cons k t _ ih =>
    cases i with
    | zero => simp at e; subst e; exact ⟨t, rfl⟩
    | succ i => simp at e; simpa using ih e
set_option maxHeartbeats 1000000 in
theorem call_add_learned {b : Addr} {vs : List Value} {cl q : List Int} {a z : Int} {kb : Nat} {Rr : Result → Shared → Prop} (G : Bas w K B) (kf : KF K) (o : On B s.heap) (R : Rep prog w B D adr S s.heap) (W : WF S) (rm : Rm A 2) (hph : 10 ≤ S.ph) (hph2 : S.ph ≤ 20)
    (hb : ¬ D b) (hBb : B.get? b = none) (hbl : s.heap.get? b = some (listO vs.toArray kb)) (hi : IntsAre vs cl) (hcl : ∀ x ∈ cl, IsLit S.n x) (hs : ∀ l, IsLit S.n l → l ∈ S.sk) (hz : S.sk.length ≤ 1000) (hcz : cl.length ≤ 1000) (ha : cl[0]? = some a) (hl : cl = q ++ [z])
    (hq : ∀ s' D', Rep prog w B D' adr (learnS S cl a z) s'.heap → Gr (fun x => D x ∨ x = b) D' s s' → (∀ x, D x → D' x) → Rr (.ok (.ret .none)) s') :
    codeAny (model prog w) A (.call (.ref 192) ⟨[.ref (adr .slf), .ref b], []⟩) Rr s := by
  obtain ⟨pm, ho⟩ := kf.fSA.fn.at_
  have hcz' := W.cls
  refine call_fn (binds := [("self", .ref (adr .slf)), ("cls", .ref b)]) G o ho kf.fSA.fn.code rm.room (BindsTo.of_eq rfl) (locs rfl) (fun h₁ L F hL hk => ?_)
  have R₁ := R.keep hk
  have hLD : ¬ D L := R.new hL
  have hbL : b ≠ L := fun z => by rw [z, hL] at hbl; cases hbl
  have hB := R.off
  obtain ⟨oc, h1, as, k, rfl, f⟩ := R₁.ok .cls (by show 4 ≤ S.ph; omega)
  have hlen := f.length
  refine wpAny_execs_cons (asn (B := B) (Call_ (nmB G kf F (callWith_builtin1 (args_cons (attr_name G F kf.S rfl (R₁.h_cls (by omega)) (by decide) rfl (args_nil ?_)))))))
  refine call_len_list (s := ⟨h₁, s.gens, s.drawn, s.toks + 2 + 1, s.os⟩) (listO_is h1) (by rw [List.size_toArray, List.length_map, hlen]; omega) ?_
  refine ⟨_, F, fun s₂ F₂ e₂ => ?_⟩
  rw [List.size_toArray, List.length_map, hlen] at F₂
  have e2 : Eff D s s₂ := ⟨fun b o n q => e₂.keep b o (fun z => by rw [z, hL] at q; cases q) (hk b o q), e₂.gens, e₂.os⟩
  have R₂ : Rep prog w B D adr S s₂.heap := R₁.eff e₂ fun b z => z ▸ hLD
  obtain ⟨oc', h1', as, k, rfl, f'⟩ := R₂.ok .cls (by show 4 ≤ S.ph; omega)
  have hlen := f'.length
  have hb2 : s₂.heap.get? b = some (listO vs.toArray kb) := e₂.keep _ _ hbL (hk _ _ hbl)
  refine wpAny_execs_cons (wpAny_Expr (MethodCall_ (attr_name G F₂ kf.S rfl (R₂.h_cls (by omega)) (by decide) rfl (meth_list (s := { s₂ with toks := s₂.toks + 1 }) h1' PySem.F.slot_list_append PySem.F.type_list_append (callWith_method1 (args_cons (ld F₂ rfl (args_nil ?_))))))))
  refine list_push (s := { s₂ with toks := s₂.toks + 1 }) h1' (by rw [sizeLine_eq, List.size_toArray, List.length_map, hlen]; omega) fun h₃ k₃ sb₃ ho₃ => ?_
  have hcl3 : S.live .cls := by show 4 ≤ S.ph; omega
  have hbne : b ≠ adr .cls := fun z => hb (z ▸ R.sub .cls hcl3)
  have Rm2 := R₂.more hb hb2 hBb
  have hb3 : h₃.get? b = some (listO vs.toArray kb) := (sb₃.2 b hbne).trans hb2
  have f2 : F2 (fun a c => ∃ oc, Fz (fun x => D x ∨ x = b) (ownOf adr S) h₃ a oc ∧ IntList oc c) (as ++ [b]) (S.cls ++ [cl]) := by
    refine (f'.imp fun a c ⟨oc, z, i⟩ => ⟨oc, ⟨.inl z.1, z.2.1, (sb₃.2 a fun y => z.2.1 ⟨.cls, hcl3, y.symm⟩).trans z.2.2⟩, i⟩).append (.cons ⟨_, ⟨.inr rfl, R₂.notOwn hb, hb3⟩, vs, kb, rfl, hi⟩ .nil)
  have R₃ := Rm2.u_cls (cs := S.cls ++ [cl]) (by omega) sb₃ ho₃ ⟨as ++ [b], k₃, by simp, f2⟩
  have gD : Eff (fun x => D x ∨ x = b) s ⟨h₃, s₂.gens, s₂.drawn, s₂.toks + 1, s₂.os⟩ := (e2.sub fun b z => .inl z).same (sb_eff (tk := s₂.toks + 1) sb₃ (.inl (R.sub .cls hcl3)))
  have hLD' : ¬ (fun x => D x ∨ x = b) L := fun z => z.elim hLD fun y => hbL y.symm
  have hB' := R₃.off
  have F₃ := Fr_eff' F₂ (s' := ⟨h₃, s₂.gens, s₂.drawn, s₂.toks + 1, s₂.os⟩) (P := fun x => D x ∨ x = b) (sb_eff (tk := s₂.toks + 1) sb₃ (.inl (R.sub .cls hcl3))) hLD' (fun b z => z) hB'
  refine wpAny_execs_cons (wpAny_For (ld (s := ⟨h₃, s₂.gens, s₂.drawn, s₂.toks + 1, s₂.os⟩) F₃ rfl ?_))
  refine iter_list (s := ⟨h₃, s₂.gens, s₂.drawn, s₂.toks + 1, s₂.os⟩) (listO_is hb3) (ints_f2 hi) fun s₄ it T e₄ hit IT hT => ?_
  have e4 := gD.same e₄.no
  have R₄ := R₃.keep fun b o q => e₄.all q
  have hitD : ¬ (fun x => D x ∨ x = b) it := R₃.new hit
  have hits : s.heap.get? it = none := Eff_fresh gD hit hitD
  have hitL : it ≠ L := fun z => by subst z; obtain ⟨o, q⟩ := Fr_live F₃; rw [q] at hit; cases hit
  have hod : S.live .odct := by show 2 ≤ S.ph; omega
  refine loop_iter (prog := prog) (w := w) (B := B) rm.deeper.hh IT (by simpa using Ne.symm hitL) (by simpa using Ne.symm hbL) (fun b hb => by rw [List.mem_singleton] at hb; subst hb; exact o.none hits)
    (fun rem m' s' => m' "self" = some (.ref (adr .slf)) ∧ m' "cls" = some (.ref b) ∧ (∃ t, m' "cls_num" = some (.int S.cls.length t)) ∧ (∀ x ∈ rem, IsLit S.n x) ∧ Rep prog w B (fun x => D x ∨ x = b) adr { S with cls := S.cls ++ [cl] } s'.heap ∧ s'.heap.get? b = some (listO vs.toArray kb) ∧ Eff (fun x => D x ∨ x = b) s s') ⟨rfl, rfl, ⟨_, updS_self⟩, hcl, R₄, e₄.all hb3, e4⟩ (Fr_no F₃ e₄) hT ?_ ?_
  · rintro y rem m₄ s₅ s₆ v ⟨hm, hmc, ⟨tn, hmn⟩, hrem, R₅, hb5, e5⟩ ⟨tk, rfl⟩ F₆ e₆ _
    have e6 : Eff (fun x => D x ∨ x = b) s s₆ := e5.new e₆ fun b hb => by rcases hb with rfl | rfl; exact hits; exact hL
    have R₆ := R₅.eff e₆ fun b hb => by rcases hb with rfl | rfl; exact hitD; exact hLD'
    have nm : ∀ {x : Str}, x ≠ "lit" → (fun z => if z = Str.ofString "lit" then some (Value.int y tk) else m₄ z) x = m₄ x := fun h => if_neg h
    have hm5 := (nm (x := "self") (by decide)).trans hm
    obtain ⟨od, h1, h2⟩ := R₆.o_odct (by show 2 ≤ S.ph; omega)
    have hlz : (litsOf S.n).length ≤ 1000 := by rw [litsOf_length]; have := W.n; omega
    refine wpAny_execs_cons (bump G F₆ kf.S hm5 (R₆.h_odct (by show 2 ≤ S.ph; omega)) (by decide) rfl h1 h2 (mem_litsOf.mpr (hrem y (by simp))) hlz fun s₇ o₇ g₇ x₇ sb₇ e₇ => ?_)
    have hP : ∀ b', b' = adr .odct → D b' ∨ b' = b := fun b z => .inl (z ▸ R.sub .odct hod)
    have R₇ := R₆.u_odct (by show 2 ≤ S.ph; omega) sb₇ g₇ x₇
    have F₇ := Fr_eff' F₆ e₇ (fun z => hLD' (hP _ z)) hP hB'
    refine wpAny_execs_nil ⟨_, _, F₇, ⟨hm5, (nm (by decide)).trans hmc, ⟨tn, (nm (by decide)).trans hmn⟩, fun x hx => hrem x (by simp [hx]), R₇, e₇.keep _ _ (fun z => hb (z ▸ R.sub .odct hod)) (e₆.keep _ _ (fun z => z.elim (fun y => hitD (y ▸ .inr rfl)) hbL) hb5), e6.same (e₇.sub hP)⟩, e₇, ?_⟩
    rintro c (hc | hc) z
    · rw [List.mem_singleton] at hc; exact hitD (hc ▸ hP c z)
    · rw [List.mem_singleton] at hc; exact hb (hc ▸ z ▸ R.sub .odct hod)
  · rintro m₅ s₅ s₆ ⟨hm, hmc, ⟨tn, hmn⟩, -, R₅, hb5, e5⟩ F₆ e₆
    have R₆ := R₅.eff e₆ fun b hb => hb ▸ hitD
    have e6 : Eff (fun x => D x ∨ x = b) s s₆ := e5.new e₆ fun b hb => hb ▸ hits
    have hb6 : s₆.heap.get? b = some (listO vs.toArray kb) := e₆.keep _ _ (fun z => hitD (z ▸ .inr rfl)) hb5
    obtain ⟨ta, hva⟩ := ints_ref hi ha
    have hal : IsLit S.n a := hcl a (List.mem_of_getElem? ha)
    have hzl : IsLit S.n z := hcl z (by rw [hl]; simp)
    have hvl := hi.length
    obtain ⟨od, d1, d2⟩ := R₆.o_sdct (by show 1 ≤ S.ph; omega)
    obtain ⟨os, c1, c2⟩ := R₆.o_sent (by show 1 ≤ S.ph; omega) (l := a) hal
    refine wpAny_execs_cons (wpAny_Expr (MethodCall_ (Subscript_ (attr_name G F₆ kf.S hm (R₆.h_sdct (by show 1 ≤ S.ph; omega)) (by decide) rfl (Subscript_ (ld F₆ hmc (wpAny_Constant_int (itemList (k := 0) (listO_is hb6) hva (by rw [hvl, sizeLine_eq]; omega) (itemMap d1 d2 (mem_litsOf.mpr hal) fun v hv => ?_)))))))))
    subst hv
    have lsent : ∀ {l : Int}, IsLit S.n l → S.live (.sent l) := fun h => ⟨by omega, h⟩
    refine getMethod_add c1 c2 (callWith_method1 (args_cons (ld F₆ hmn (args_nil ?_))))
    refine call_add c1 c2 (by show (S.sent a).length + 1 < scanBound; exact W.small hal) fun h₇ o₇ sb₇ ho₇ x₇ => ?_
    have R₇ := R₆.u_sent (by show 1 ≤ S.ph; omega) hal sb₇ ho₇ x₇
    have sD : ∀ {l : Int}, IsLit S.n l → D (adr (.sent l)) := fun h => R.sub _ (lsent h)
    have hbs : ∀ {l : Int}, IsLit S.n l → b ≠ adr (.sent l) := fun h z => hb (z ▸ sD h)
    generalize ht7 : s₆.toks + 1 + 1 + 1 + 1 = t₇
    have e7 : Eff (fun x => D x ∨ x = b) s ⟨h₇, s₆.gens, s₆.drawn, t₇, s₆.os⟩ := e6.same (sb_eff (tk := t₇) sb₇ (.inl (sD hal)))
    have F₇ := Fr_eff' F₆ (s' := ⟨h₇, s₆.gens, s₆.drawn, t₇, s₆.os⟩) (P := fun x => D x ∨ x = b) (sb_eff (tk := t₇) sb₇ (.inl (sD hal))) hLD' (fun b z => z) hB'
    have hb7 : h₇.get? b = some (listO vs.toArray kb) := (sb₇.2 b (hbs hal)).trans hb6
    obtain ⟨od', d1', d2'⟩ := R₇.o_sdct (by show 1 ≤ S.ph; omega)
    obtain ⟨os', c1', c2'⟩ := R₇.o_sent (by show 1 ≤ S.ph; omega) (l := z) hzl
    obtain ⟨vq, tz, hvz, _⟩ := ints_split (hl ▸ hi)
    refine wpAny_execs_cons (wpAny_Expr (MethodCall_ (Subscript_ (attr_name (s := ⟨h₇, s₆.gens, s₆.drawn, t₇, s₆.os⟩) G F₇ kf.S hm (R₇.h_sdct (by show 1 ≤ S.ph; omega)) (by decide) rfl (Subscript_ (ld F₇ hmc (UnaryOp_ (wpAny_Constant_int (P.neg_int (itemLast (listO_is (by rw [← hvz]; exact hb7)) (itemMap d1' d2' (mem_litsOf.mpr hzl) fun v hv => ?_)))))))))))
    subst hv
    refine getMethod_add c1' c2' (callWith_method1 (args_cons (ld F₇ hmn (args_nil ?_))))
    refine call_add c1' c2' (by
      show (updI S.sent a (addI (S.sent a) S.cls.length) z).length + 1 < scanBound
      have h1 := W.small hal; have h2 := W.small hzl
      have h3 := nodup_ints_le (W.sent a hal).1 (W.sent a hal).2
      have h4 : scanBound = 4096 := rfl
      unfold updI addI
      split
      · split
        · omega
        · rw [List.length_append]; show _ + 1 + 1 < _; omega
      · omega) fun h₈ o₈ sb₈ ho₈ x₈ => ?_
    have R₈ := R₇.u_sent (by show 1 ≤ S.ph; omega) hzl sb₈ ho₈ x₈
    have R₈' : Rep prog w B (fun x => D x ∨ x = b) adr (learnS S cl a z) h₈ := R₈
    generalize t₇ + 1 + 1 + 1 + 1 + 1 = t₈
    have e8 : Eff (fun x => D x ∨ x = b) s ⟨h₈, s₆.gens, s₆.drawn, t₈, s₆.os⟩ := e7.same (sb_eff (s := ⟨h₇, s₆.gens, s₆.drawn, t₇, s₆.os⟩) (tk := t₈) sb₈ (.inl (sD hzl)))
    have F₈ := Fr_eff' F₇ (s' := ⟨h₈, s₆.gens, s₆.drawn, t₈, s₆.os⟩) (P := fun x => D x ∨ x = b) (sb_eff (s := ⟨h₇, s₆.gens, s₆.drawn, t₇, s₆.os⟩) (tk := t₈) sb₈ (.inl (sD hzl))) hLD' (fun b z => z) hB'
    have hb8 : h₈.get? b = some (listO vs.toArray kb) := (sb₈.2 b (hbs hzl)).trans hb7
    have hown : ¬ ownOf adr (learnS S cl a z) b := by
      rintro ⟨r, h1, h2⟩
      exact hb (h2 ▸ R.sub r h1)
    refine wpAny_execs_cons (wpAny_Expr (self_call (s := ⟨h₈, s₆.gens, s₆.drawn, t₈, s₆.os⟩) G F₈ kf.S kf.fVCA R₈' hm (by decide) (args_cons (ld F₈ hmc (args_nil ⟨(frOn F₈), ?_⟩)))))
    refine call_clause_added (s := ⟨h₈, s₆.gens, s₆.drawn, t₈, s₆.os⟩) (cl := cl) G kf (frOn F₈) R₈' (rm.deeper.less (by omega)) hph hph2 (.inr rfl) hown hb8 hi (fun x hx => hs x (hcl x hx)) hz fun s₉ R₉ e₉ => ?_
    exact wpAny_execs_nil (hq s₉ _ R₉ ⟨fun _ h => h, fun _ h => .inl h, e8.same e₉⟩ fun _ h => .inl h)
end
end Dp
end
section
open PySem PySem.W PySem.Calls PyProof.Rows
namespace Dp
def tr (r : List Bool) (l : Int) : Prop := r.getD (l.natAbs - 1) false = decide (0 < l)
theorem tr_neg {r : List Bool} {l : Int} (h : l ≠ 0) : tr r (-l) ↔ ¬ tr r l := by
  unfold tr
  rw [Int.natAbs_neg]
  rcases Int.lt_or_gt_of_ne h with q | q
  · rw [decide_eq_true (by omega : 0 < -l), decide_eq_false (by omega : ¬ 0 < l)]; cases r.getD (l.natAbs - 1) false <;> simp
  · rw [decide_eq_false (by omega : ¬ 0 < -l), decide_eq_true (by omega : 0 < l)]; cases r.getD (l.natAbs - 1) false <;> simp
def Un : List LV → List Bool → Prop
  | [], _ => True
  | lv :: L, r => (tr r lv.dec ∧ Un L r) ∨ (¬ tr r lv.dec ∧ lv.flip = false)
def Rg : List LV → List Bool → Prop
  | [], _ => False
  | lv :: L, r => (tr r lv.dec ∧ Rg L r) ∨ (¬ tr r lv.dec ∧ lv.flip = false)
def Bd (L : List LV) (r : List Bool) : Prop := ∀ lv ∈ L, tr r lv.dec
theorem Bd_nil {r : List Bool} : Bd [] r := fun _ h => nomatch h
theorem Bd_cons {lv : LV} {L : List LV} {r : List Bool} : Bd (lv :: L) r ↔ tr r lv.dec ∧ Bd L r := by simp [Bd]
theorem Bd_snoc {lv : LV} {L : List LV} {r : List Bool} : Bd (L ++ [lv]) r ↔ Bd L r ∧ tr r lv.dec := by
  simp only [Bd, List.mem_append, List.mem_singleton]
  exact ⟨fun h => ⟨fun x hx => h x (.inl hx), h lv (.inr rfl)⟩, fun h x hx => hx.elim (h.1 x) fun z => z ▸ h.2⟩
theorem Un_iff {L : List LV} {r : List Bool} : Un L r ↔ Bd L r ∨ Rg L r := by
  induction L with
  | nil => simp [Un, Bd_nil]
  | cons lv L ih =>
    rw [Un, Rg, Bd_cons, ih]
    by_cases h : tr r lv.dec <;> simp [h]
theorem Bd_not_Rg {L : List LV} {r : List Bool} (h : Bd L r) : ¬ Rg L r := by
  induction L with
  | nil => simp [Rg]
  | cons lv L ih => rw [Bd_cons] at h; rw [Rg]; rintro (⟨_, q⟩ | ⟨q, _⟩); exact ih h.2 q; exact q h.1
theorem Rg_broken {L : List LV} {r : List Bool} (h : Rg L r) : ∃ lv ∈ L, ¬ tr r lv.dec := by
  induction L with
  | nil => exact h.elim
  | cons lv L ih =>
    rcases h with ⟨_, q⟩ | ⟨q, _⟩
    · obtain ⟨x, a, b⟩ := ih q; exact ⟨x, .tail _ a, b⟩
    · exact ⟨lv, .head _, q⟩
theorem Un_snoc {lv : LV} {L : List LV} {r : List Bool} (hf : lv.flip = false) : Un (L ++ [lv]) r ↔ Un L r := by
  induction L with
  | nil => simp only [List.nil_append, Un, hf, and_true]; by_cases h : tr r lv.dec <;> simp [h]
  | cons x L ih => rw [List.cons_append, Un, Un, ih]
theorem Rg_snoc_flip {lv : LV} {L : List LV} {r : List Bool} (hf : lv.flip = true) : Rg (L ++ [lv]) r ↔ Rg L r := by
  induction L with
  | nil => simp [Rg, hf]
  | cons x L ih => rw [List.cons_append, Rg, Rg, ih]
theorem Rg_turn {lv lv' : LV} {L : List LV} {r : List Bool} (hf : lv.flip = false) (hf' : lv'.flip = true) (hd : lv'.dec = -lv.dec) (h0 : lv.dec ≠ 0) : Un (L ++ [lv']) r ↔ Rg (L ++ [lv]) r := by
  induction L with
  | nil => simp only [List.nil_append, Un, Rg, hf, hf', hd, tr_neg h0]; simp
  | cons x L ih => rw [List.cons_append, List.cons_append, Un, Rg, ih]
def Sd (P : List Bool → Prop) : List LV → Prop
  | [] => True
  | lv :: L => (∀ r, P r → tr r lv.dec → ∀ t ∈ lv.lits, tr r t) ∧ Sd (fun r => P r ∧ tr r lv.dec) L
theorem Sd.mono {P P' : List Bool → Prop} {L : List LV} (h : Sd P L) (k : ∀ r, P' r → P r) : Sd P' L := by
  induction L generalizing P P' with
  | nil => trivial
  | cons lv L ih => exact ⟨fun r hr => h.1 r (k r hr), ih h.2 fun r hr => ⟨k r hr.1, hr.2⟩⟩
theorem Sd_snoc {P : List Bool → Prop} {L : List LV} {lv : LV} : Sd P (L ++ [lv]) ↔ Sd P L ∧ ∀ r, P r → Bd L r → tr r lv.dec → ∀ t ∈ lv.lits, tr r t := by
  induction L generalizing P with
  | nil => simp [Sd, Bd_nil]
  | cons x L ih =>
    rw [List.cons_append, Sd, Sd, ih]
    constructor
    · rintro ⟨a, b, c⟩
      exact ⟨⟨a, b⟩, fun r hr hb hd => c r ⟨hr, (Bd_cons.mp hb).1⟩ (Bd_cons.mp hb).2 hd⟩
    · rintro ⟨⟨a, b⟩, c⟩
      exact ⟨a, b, fun r hr hb hd => c r hr.1 (Bd_cons.mpr ⟨hr.2, hb⟩) hd⟩
theorem Sd.at {P : List Bool → Prop} {L : List LV} (h : Sd P L) {r : List Bool} (hr : P r) (hb : Bd L r) {lv : LV} (hm : lv ∈ L) : ∀ t ∈ lv.lits, tr r t := by
  induction L generalizing P with
  | nil => cases hm
  | cons x L ih =>
    rw [Bd_cons] at hb
    rcases List.mem_cons.mp hm with rfl | q
    · exact h.1 r hr hb.1
    · exact ih h.2 ⟨hr, hb.1⟩ hb.2 q
def clOf (S : SV) (c : Int) : List Int := S.cls.getD c.toNat []
theorem scanC_some {S : SV} {c neg : Int} {l : List Int} {o : Option Int} : scanC S c neg l o = .inr none → o = none ∧ ∀ x ∈ l, x ≠ neg → c ∉ S.sent x := by
  induction l generalizing o with
  | nil => intro h; injection h with h; exact ⟨h, fun x h => nomatch h⟩
  | cons x r ih =>
    rw [scanC]
    by_cases h1 : x = neg
    · rw [if_pos h1]; intro h
      obtain ⟨a, b⟩ := ih h
      refine ⟨a, fun y hy hn => ?_⟩
      rcases List.mem_cons.mp hy with rfl | hy
      · exact absurd h1 hn
      · exact b y hy hn
    · rw [if_neg h1]
      by_cases h2 : c ∈ S.sent x
      · rw [if_pos h2]; intro h; obtain ⟨a, _⟩ := ih h; cases a
      · rw [if_neg h2]
        by_cases h3 : S.isV x = false
        · rw [if_pos h3]; intro h; cases h
        · rw [if_neg h3]; intro h
          obtain ⟨a, b⟩ := ih h
          refine ⟨a, fun y hy hn => ?_⟩
          rcases List.mem_cons.mp hy with rfl | hy
          · exact h2
          · exact b y hy hn
structure Tl (S : SV) : Prop where
  wf : WF S
  mem : ∀ l, l ∈ S.vs ↔ ∃ lv ∈ S.lvs, l ∈ lv.lits
  disj : S.lvs.Pairwise fun a b => ∀ l ∈ a.lits, l ∉ b.lits
  cons : ∀ l ∈ S.vs, -l ∉ S.vs
  var : ∀ x, IsLit S.n x → (S.isV x = true ↔ x ∈ S.vs ∨ -x ∈ S.vs)
structure Wt (S : SV) : Prop where
  se1 : ∀ l c, c ∈ S.sent l → l ∈ clOf S c
  se2 : ∀ c a b d, c ∈ S.sent a → c ∈ S.sent b → c ∈ S.sent d → a = b ∨ b = d ∨ a = d
  se3 : ∀ (i : Nat) cl, S.cls[i]? = some cl → 2 ≤ cl.length → ∃ a b, a ≠ b ∧ (i : Int) ∈ S.sent a ∧ (i : Int) ∈ S.sent b
def Wlow (CL : List (List Int)) (S : SV) (r : List LV) : Prop := ∀ (k : Nat) cl a, CL[k]? = some cl → 2 ≤ cl.length → (k : Int) ∈ S.sent a → ∀ (i : Nat) lv, r[i]? = some lv → -a ∈ lv.lits → ∃ (j : Nat) (lv' : LV), j ≤ i ∧ r[j]? = some lv' ∧ ∃ t ∈ cl, t ∈ lv'.lits
def Wcur (CL : List (List Int)) (S : SV) (lv : LV) (ex : Int → Int → Prop) : Prop := ∀ (k : Nat) cl a, CL[k]? = some cl → 2 ≤ cl.length → (k : Int) ∈ S.sent a → ¬ ex a k → -a ∈ lv.lits → (∃ t ∈ cl, t ∈ S.vs) ∨ ∃ x ∈ S.que, x ∈ cl
def Lifo (S : SV) (ex : Int → Int → Prop) : Prop := ∀ q1 o q2, S.que = q1 ++ o :: q2 → o ∈ S.vs → ∀ c ∈ S.sent (-o), ¬ ex (-o) c → S.satC (clOf S c) = true ∨ (∃ x ∈ q2, x ∈ clOf S c) ∨ (clOf S c).length < 2
structure PI (CL : List (List Int)) (M : List Bool → Prop) (r : List LV) (lv : LV) (ex : Int → Int → Prop) (S : SV) : Prop where
  tl : Tl S
  wt : Wt S
  lvs : S.lvs = r ++ [lv]
  pre : ∃ ls, S.cls = CL ++ ls
  que : ∀ l ∈ S.que, IsLit S.n l
  qcur : ∀ x ∈ S.que, x ∈ S.vs → x ∈ lv.lits
  mq : ∀ ρ, M ρ → ∀ x ∈ S.que, tr ρ x
  mv : ∀ ρ, M ρ → ∀ x ∈ S.vs, tr ρ x
  mc : ∀ ρ, M ρ → ∀ cl ∈ S.cls, ∃ x ∈ cl, tr ρ x
  unit : ∀ cl ∈ CL, cl.length = 1 → ∃ x ∈ cl, (r = [] ∧ x ∈ S.que) ∨ ∃ lv', S.lvs[0]? = some lv' ∧ x ∈ lv'.lits
  wlow : Wlow CL S r
  wcur : Wcur CL S lv ex
  lifo : Lifo S ex
end Dp
end
section
open PySem PySem.W PySem.Calls PyProof.Rows
namespace Dp
def exl (l : Int) (rem : List Int) (a k : Int) : Prop := a = -l ∧ k ∈ rem
theorem exl_new {l c a k : Int} {rem : List Int} (h : ¬ exl l rem a k) : ¬ exl l (c :: rem) a k ∨ (a = -l ∧ k = c) := by
  by_cases q : exl l (c :: rem) a k
  · obtain ⟨h1, h2⟩ := q
    rcases List.mem_cons.mp h2 with z | z
    · exact .inr ⟨h1, z⟩
    · exact absurd ⟨h1, z⟩ h
  · exact .inl q
theorem satC_iff {S : SV} {cl : List Int} : S.satC cl = true ↔ ∃ t ∈ cl, t ∈ S.vs := by simp [SV.satC]
theorem clOf_nat {S : SV} {i : Nat} : clOf S (i : Int) = S.cls.getD i [] := by unfold clOf; rw [Int.toNat_natCast]
theorem clOf_at {S : SV} {i : Nat} {cl : List Int} (h : S.cls[i]? = some cl) : clOf S i = cl := by rw [clOf_nat, List.getD_eq_getElem?_getD, h]; rfl
section
variable {CL : List (List Int)} {M : List Bool → Prop} {r : List LV} {lv : LV} {ex ex' : Int → Int → Prop} {S : SV} {l c : Int} {rem : List Int}
theorem PI.withEx (h : PI CL M r lv ex S) (hw : Wcur CL S lv ex') (hl : Lifo S ex') : PI CL M r lv ex' S :=
  ⟨h.tl, h.wt, h.lvs, h.pre, h.que, h.qcur, h.mq, h.mv, h.mc, h.unit, h.wlow, hw, hl⟩
theorem PI.orig (h : PI CL M r lv ex S) {k : Nat} {cl : List Int} (e : CL[k]? = some cl) : S.cls[k]? = some cl := by
  obtain ⟨ls, q⟩ := h.pre
  rw [q, List.getElem?_append_left]
  · exact e
  · rcases Nat.lt_or_ge k CL.length with z | z
    · exact z
    · rw [List.getElem?_eq_none z] at e; cases e
theorem isV_vs (t : Tl S) {x : Int} (hx : IsLit S.n x) (h : S.isV x = true) (hn : x ∉ S.vs) : -x ∈ S.vs := ((t.var x hx).mp h).resolve_left hn
theorem notV_vs (t : Tl S) {x : Int} (hx : IsLit S.n x) (h : S.isV x = false) : x ∉ S.vs ∧ -x ∉ S.vs := by
  refine ⟨fun z => ?_, fun z => ?_⟩
  · have := (t.var x hx).mpr (.inl z); rw [h] at this; cases this
  · have := (t.var x hx).mpr (.inr z); rw [h] at this; cases this
theorem mem_move {x c' a : Int} (hn : (S.sent (-l)).Nodup) (hx : x ≠ -l) : c' ∈ (moveC S c (-l) x).sent a ↔ (c' = c ∧ (a = x ∨ (a ≠ -l ∧ c ∈ S.sent a))) ∨ (c' ≠ c ∧ c' ∈ S.sent a) := by
  rw [moveC_sent hx]
  by_cases h1 : a = x
  · subst h1
    rw [if_pos rfl, mem_addI]
    by_cases h2 : c' = c
    · subst h2; simp
    · simp [h2]
  · rw [if_neg h1]
    by_cases h2 : a = -l
    · subst h2
      rw [if_pos rfl, List.Nodup.mem_erase_iff hn]
      by_cases h3 : c' = c
      · subst h3; simp [h1]
      · simp [h3]
    · rw [if_neg h2]
      by_cases h3 : c' = c
      · subst h3; simp [h1, h2]
      · simp [h3]
theorem PI.lits (h : PI CL M r lv ex S) {i : Nat} {cl : List Int} (e : S.cls[i]? = some cl) {x : Int} (hx : x ∈ cl) : IsLit S.n x := h.tl.wf.lits cl (List.mem_of_getElem? e) x hx
theorem Tl.stepC (t : Tl S) (hl : IsLit S.n l) (hc : c ∈ S.sent (-l)) : Tl (stepC l S c) := by
  have e := stepC_cls (S := S) (lit := l) (c := c)
  obtain ⟨e1, e2, e3, e4, e5, e6⟩ := e
  refine ⟨t.wf.stepC hl hc, ?_, ?_, ?_, ?_⟩
  · rw [e4, e6]; exact t.mem
  · rw [e6]; exact t.disj
  · rw [e4]; exact t.cons
  · intro x hx; unfold SV.isV; rw [e5, e4]; exact t.var x (e2 ▸ hx)
theorem PI.stepC (h : PI CL M r lv (exl l (c :: rem)) S) (hl : l ∈ S.vs) (hc : c ∈ S.sent (-l)) : PI CL M r lv (exl l rem) (stepC l S c) := by
  have hll : IsLit S.n l := h.tl.wf.vs l hl
  have hT := h.tl.stepC hll hc
  obtain ⟨i, rfl, hi⟩ := (h.tl.wf.sent (-l) hll.neg).2 c hc
  obtain ⟨cl, hcl⟩ : ∃ cl, S.cls[i]? = some cl := ⟨_, List.getElem?_eq_getElem hi⟩
  have hcc := clOf_at hcl
  have hget : S.cls.getD ((i : Int).toNat) [] = cl := hcc
  unfold Dp.stepC at hT ⊢
  simp only [hget] at hT ⊢
  have sameCl : ∀ {k : Nat} {cl' : List Int}, CL[k]? = some cl' → (k : Int) = i → cl' = cl := fun {k cl'} e z => by
    have e' := h.orig e
    have : k = i := by omega
    subst this; rw [hcl] at e'; injection e' with e'; exact e'.symm
  have finW : ((∃ t ∈ cl, t ∈ S.vs) ∨ (∃ x ∈ S.que, x ∈ cl) ∨ cl.length < 2) → Wcur CL S lv (exl l rem) := by
    intro o k cl' a e1 e2 e3 e4 e5
    rcases exl_new (c := i) e4 with z | ⟨z1, z2⟩
    · exact h.wcur k cl' a e1 e2 e3 z e5
    · have := sameCl e1 z2; subst this
      rcases o with o | o | o
      · exact .inl o
      · exact .inr o
      · omega
  by_cases hs : S.satC cl = true
  · rw [if_pos hs]
    refine h.withEx (finW (.inl (satC_iff.mp hs))) fun q1 o q2 e1 e2 c' e3 e4 => ?_
    rcases exl_new (c := i) e4 with z | ⟨z1, z2⟩
    · exact h.lifo q1 o q2 e1 e2 c' e3 z
    · subst z2; rw [hcc]; exact .inl hs
  rw [if_neg hs] at hT ⊢
  have hun : ∀ x ∈ cl, x ∉ S.vs := fun x hx z => hs (satC_iff.mpr ⟨x, hx, z⟩)
  have hsp := scanC_spec (S := S) (c := i) (neg := -l) (l := cl) (o := none)
  cases hq : scanC S i (-l) cl none with
  | inl x =>
    rw [hq] at hsp hT
    simp only at hsp hT ⊢
    obtain ⟨a1, a2, a3, a4⟩ := hsp
    have hnd := (h.tl.wf.sent (-l) hll.neg).1
    have mm := fun c' a => mem_move (S := S) (l := l) (c := i) (x := x) (c' := c') (a := a) hnd a2
    have hxl := h.lits hcl a1
    obtain ⟨hx1, hx2⟩ := notV_vs h.tl hxl a4
    have one : ∀ {a}, (i : Int) ∈ S.sent a → a ≠ -l → ∀ {b}, (i : Int) ∈ S.sent b → b ≠ -l → a = b := fun {a} ha na {b} hb nb => by
      rcases h.wt.se2 i a b (-l) ha hb hc with z | z | z
      · exact z
      · exact absurd z nb
      · exact absurd z na
    refine ⟨hT, ⟨?_, ?_, ?_⟩, h.lvs, h.pre, h.que, h.qcur, h.mq, h.mv, h.mc, h.unit, ?_, ?_, ?_⟩
    · intro a c' hm
      show a ∈ clOf S c'
      rcases (mm c' a).mp hm with ⟨rfl, z | ⟨_, z⟩⟩ | ⟨_, z⟩
      · rw [z, hcc]; exact a1
      · exact h.wt.se1 a _ z
      · exact h.wt.se1 a _ z
    · intro c' a b d h1 h2 h3
      rcases (mm c' a).mp h1 with ⟨rfl, p1⟩ | ⟨n1, p1⟩
      · have p2 : b = x ∨ (b ≠ -l ∧ (i : Int) ∈ S.sent b) := by
          rcases (mm i b).mp h2 with ⟨_, z⟩ | ⟨z, _⟩
          · exact z
          · exact absurd rfl z
        have p3 : d = x ∨ (d ≠ -l ∧ (i : Int) ∈ S.sent d) := by
          rcases (mm i d).mp h3 with ⟨_, z⟩ | ⟨z, _⟩
          · exact z
          · exact absurd rfl z
        rcases p1 with p1 | ⟨n1, p1⟩ <;> rcases p2 with p2 | ⟨n2, p2⟩ <;> rcases p3 with p3 | ⟨n3, p3⟩
        · exact .inl (p1.trans p2.symm)
        · exact .inl (p1.trans p2.symm)
        · exact .inr (.inr (p1.trans p3.symm))
        · exact .inr (.inl (one p2 n2 p3 n3))
        · exact .inr (.inl (p2.trans p3.symm))
        · exact .inr (.inr (one p1 n1 p3 n3))
        · exact .inl (one p1 n1 p2 n2)
        · exact .inl (one p1 n1 p2 n2)
      · have p2 : c' ∈ S.sent b := by
          rcases (mm c' b).mp h2 with ⟨z, _⟩ | ⟨_, z⟩
          · exact absurd z n1
          · exact z
        have p3 : c' ∈ S.sent d := by
          rcases (mm c' d).mp h3 with ⟨z, _⟩ | ⟨_, z⟩
          · exact absurd z n1
          · exact z
        exact h.wt.se2 c' a b d p1 p2 p3
    · intro k cl' e1 e2
      obtain ⟨a, b, hab, ha, hb⟩ := h.wt.se3 k cl' e1 e2
      by_cases hk : (k : Int) = i
      · rw [hk] at ha hb ⊢
        have : ∃ y, y ≠ -l ∧ (i : Int) ∈ S.sent y := by
          by_cases z : a = -l
          · exact ⟨b, fun y => hab (z.trans y.symm), hb⟩
          · exact ⟨a, z, ha⟩
        obtain ⟨y, hy1, hy2⟩ := this
        exact ⟨x, y, fun z => a3 (z ▸ hy2), (mm i x).mpr (.inl ⟨rfl, .inl rfl⟩), (mm i y).mpr (.inl ⟨rfl, .inr ⟨hy1, hy2⟩⟩)⟩
      · exact ⟨a, b, hab, (mm k a).mpr (.inr ⟨hk, ha⟩), (mm k b).mpr (.inr ⟨hk, hb⟩)⟩
    · intro k cl' a e1 e2 e3 j lvj e4 e5
      rcases (mm k a).mp e3 with ⟨z, p | ⟨_, p⟩⟩ | ⟨_, p⟩
      · subst p
        exact absurd ((h.tl.mem _).mpr ⟨lvj, by rw [h.lvs]; exact List.mem_append_left _ (List.mem_of_getElem? e4), e5⟩) hx2
      · exact h.wlow k cl' a e1 e2 (z ▸ p) j lvj e4 e5
      · exact h.wlow k cl' a e1 e2 p j lvj e4 e5
    · intro k cl' a e1 e2 e3 e4 e5
      show (∃ t ∈ cl', t ∈ S.vs) ∨ ∃ x ∈ S.que, x ∈ cl'
      rcases (mm k a).mp e3 with ⟨z, p | ⟨n, p⟩⟩ | ⟨n, p⟩
      · subst p
        exact absurd ((h.tl.mem _).mpr ⟨lv, by rw [h.lvs]; simp, e5⟩) hx2
      · refine h.wcur k cl' a e1 e2 (z ▸ p) (fun q => ?_) e5
        exact n q.1
      · refine h.wcur k cl' a e1 e2 p (fun q => ?_) e5
        rcases List.mem_cons.mp q.2 with y | y
        · exact n y
        · exact e4 ⟨q.1, y⟩
    · intro q1 o q2 e1 e2 c' e3 e4
      show S.satC (clOf S c') = true ∨ (∃ x ∈ q2, x ∈ clOf S c') ∨ (clOf S c').length < 2
      rcases (mm c' (-o)).mp e3 with ⟨z, p | ⟨n, p⟩⟩ | ⟨n, p⟩
      · exact absurd (show -x ∈ S.vs by rw [← p, Int.neg_neg]; exact e2) hx2
      · exact h.lifo q1 o q2 e1 e2 c' (z ▸ p) fun q => n q.1
      · refine h.lifo q1 o q2 e1 e2 c' p fun q => ?_
        rcases List.mem_cons.mp q.2 with y | y
        · exact n y
        · exact e4 ⟨q.1, y⟩
  | inr oo =>
    rw [hq] at hsp hT
    cases oo with
    | none =>
      simp only at hsp hT ⊢
      have hno := (scanC_some hq).2
      have hlt : cl.length < 2 := by
        rcases Nat.lt_or_ge cl.length 2 with z | z
        · exact z
        · obtain ⟨a, b, hab, ha, hb⟩ := h.wt.se3 i cl hcl z
          have h1 : a = -l := Classical.byContradiction fun n => hno a (hcc ▸ h.wt.se1 a i ha) n ha
          have h2 : b = -l := Classical.byContradiction fun n => hno b (hcc ▸ h.wt.se1 b i hb) n hb
          exact absurd (h1.trans h2.symm) hab
      refine h.withEx (finW (.inr (.inr hlt))) fun q1 o q2 e1 e2 c' e3 e4 => ?_
      rcases exl_new (c := i) e4 with z | ⟨z1, z2⟩
      · exact h.lifo q1 o q2 e1 e2 c' e3 z
      · subst z2; rw [hcc]; exact .inr (.inr hlt)
    | some x =>
      simp only at hsp hT ⊢
      obtain ⟨b1, b2⟩ := hsp
      obtain ⟨x', hx1, hx2, hx3, hx4⟩ : ∃ x' ∈ cl, some x = some x' ∧ x' ≠ -l ∧ (i : Int) ∈ S.sent x' := by
        rcases b1 with z | z
        · cases z
        · exact z
      injection hx2 with hx2
      subst hx2
      have hxl := h.lits hcl hx1
      refine ⟨hT, ⟨h.wt.se1, h.wt.se2, h.wt.se3⟩, h.lvs, h.pre, ?_, ?_, ?_, h.mv, h.mc, ?_, h.wlow, ?_, ?_⟩
      · intro y hy
        rcases List.mem_append.mp hy with q | q
        · exact h.que y q
        · rw [List.mem_singleton] at q; subst q; exact hxl
      · intro y hy hv
        rcases List.mem_append.mp hy with q | q
        · exact h.qcur y q hv
        · rw [List.mem_singleton] at q; subst q; exact absurd hv (hun _ hx1)
      · intro ρ hρ y hy
        rcases List.mem_append.mp hy with q | q
        · exact h.mq ρ hρ y q
        · rw [List.mem_singleton] at q; subst q
          obtain ⟨z, hz1, hz2⟩ := h.mc ρ hρ cl (List.mem_of_getElem? hcl)
          by_cases hzx : z = y
          · rw [← hzx]; exact hz2
          exfalso
          have hzl := h.lits hcl hz1
          have hneg : -z ∈ S.vs := by
            by_cases hzl' : z = -l
            · rw [hzl', Int.neg_neg]; exact hl
            · refine isV_vs h.tl hzl (b2 z hz1 hzl' fun hzs => ?_) (hun z hz1)
              rcases h.wt.se2 i z y (-l) hzs hx4 hc with w | w | w
              · exact hzx w
              · exact hx3 w
              · exact hzl' w
          exact (tr_neg hzl.1).mp (h.mv ρ hρ _ hneg) hz2
      · intro cl' e1 e2
        obtain ⟨y, hy, o⟩ := h.unit cl' e1 e2
        exact ⟨y, hy, o.imp (fun z => ⟨z.1, List.mem_append_left _ z.2⟩) id⟩
      · intro k cl' a e1 e2 e3 e4 e5
        rcases exl_new (c := i) e4 with z | ⟨z1, z2⟩
        · exact (h.wcur k cl' a e1 e2 e3 z e5).imp id fun ⟨y, p, q⟩ => ⟨y, List.mem_append_left _ p, q⟩
        · have := sameCl e1 z2; subst this
          exact .inr ⟨x, by simp, hx1⟩
      · intro q1 o q2 e1 e2 c' e3 e4
        show S.satC (clOf S c') = true ∨ (∃ x ∈ q2, x ∈ clOf S c') ∨ (clOf S c').length < 2
        rcases List.eq_nil_or_concat q2 with hq2 | ⟨q3, w, hq2⟩
        · subst hq2
          have : o = x := by
            have := congrArg List.getLast? e1; simp at this; exact this.symm
          subst this
          exact absurd e2 (hun _ hx1)
        · subst hq2
          have e1' : S.que ++ [x] = (q1 ++ o :: q3) ++ [w] := by have e1'' : S.que ++ [x] = q1 ++ o :: q3.concat w := e1; rw [e1'']; simp
          obtain ⟨e5, e6⟩ := List.append_inj' e1' rfl
          injection e6 with e6
          subst e6
          rcases exl_new (c := i) e4 with z | ⟨z1, z2⟩
          · rcases h.lifo q1 o q3 e5 e2 c' e3 z with p | ⟨y, p1, p2⟩ | p
            · exact .inl p
            · exact .inr (.inl ⟨y, by simp [p1], p2⟩)
            · exact .inr (.inr p)
          · subst z2
            exact .inr (.inl ⟨x, by simp, by rw [hcc]; exact hx1⟩)
end
end Dp
end
section
open PySem PySem.W PySem.Calls PyProof.Rows
namespace Dp
def nx (_ _ : Int) : Prop := False
structure Same (S S' : SV) : Prop where
  n : S'.n = S.n
  cls : S'.cls = S.cls
  hp : S'.hp = S.hp
  sk : S'.sk = S.sk
  learn : S'.learn = S.learn
  syms : S'.syms = S.syms
  ph : S'.ph = S.ph
  unsat : S'.unsat = S.unsat
theorem Same.refl {S : SV} : Same S S := ⟨rfl, rfl, rfl, rfl, rfl, rfl, rfl, rfl⟩
theorem Same.trans {S S' S'' : SV} (a : Same S S') (b : Same S' S'') : Same S S'' := ⟨b.n.trans a.n, b.cls.trans a.cls, b.hp.trans a.hp, b.sk.trans a.sk, b.learn.trans a.learn, b.syms.trans a.syms, b.ph.trans a.ph, b.unsat.trans a.unsat⟩
theorem Same.stepC {S : SV} {l c : Int} : Same S (stepC l S c) := by
  unfold Dp.stepC; dsimp only; split
  · exact .refl
  · split <;> exact ⟨rfl, rfl, rfl, rfl, rfl, rfl, rfl, rfl⟩
structure LvUp (lv lv' : LV) : Prop where
  dec : lv'.dec = lv.dec
  flip : lv'.flip = lv.flip
  ob : lv'.ob = lv.ob
  dc : lv'.dc = lv.dc
  lits : ∀ x ∈ lv.lits, x ∈ lv'.lits
theorem LvUp.refl {lv : LV} : LvUp lv lv := ⟨rfl, rfl, rfl, rfl, fun _ h => h⟩
theorem LvUp.trans {a b c : LV} (x : LvUp a b) (y : LvUp b c) : LvUp a c := ⟨y.dec.trans x.dec, y.flip.trans x.flip, y.ob.trans x.ob, y.dc.trans x.dc, fun t h => y.lits t (x.lits t h)⟩
section
variable {CL : List (List Int)} {M : List Bool → Prop} {r : List LV} {lv : LV} {ex ex' : Int → Int → Prop} {S S1 S' : SV} {l c : Int} {rem q ord : List Int}
theorem asg0_isV {x : Int} (hlen : l.natAbs < S.vars.length) : (asg0 S r lv l).isV x = if x.natAbs = l.natAbs then true else S.isV x := by
  unfold SV.isV asg0
  dsimp only
  rw [List.getD_eq_getElem?_getD, List.getD_eq_getElem?_getD]
  by_cases e : x.natAbs = l.natAbs
  · rw [if_pos e, e, List.getElem?_set_self hlen]; rfl
  · rw [if_neg e, List.getElem?_set_ne (Ne.symm e)]
theorem Tl.asg0 (t : Tl S) (hlvs : S.lvs = r ++ [lv]) (hl : IsLit S.n l) (hn : -l ∉ S.vs) (hc : l ∈ S.vs → l ∈ lv.lits) : Tl (asg0 S r lv l) := by
  have hln : l.natAbs < S.vars.length := by rw [t.wf.vars]; have := hl.2; omega
  refine ⟨t.wf.asg0 hlvs hl, fun x => ?_, ?_, fun x hx => ?_, fun x hx => ?_⟩
  · show x ∈ addI S.vs l ↔ ∃ lv', lv' ∈ r ++ [_] ∧ x ∈ lv'.lits
    rw [mem_addI, t.mem, hlvs]
    constructor
    · rintro (⟨lv', h1, h2⟩ | rfl)
      · rcases List.mem_append.mp h1 with z | z
        · exact ⟨lv', List.mem_append_left _ z, h2⟩
        · rw [List.mem_singleton] at z; subst z
          exact ⟨_, List.mem_append_right _ (List.mem_singleton.mpr rfl), mem_addI.mpr (.inl h2)⟩
      · exact ⟨_, List.mem_append_right _ (List.mem_singleton.mpr rfl), mem_addI.mpr (.inr rfl)⟩
    · rintro ⟨lv', h1, h2⟩
      rcases List.mem_append.mp h1 with z | z
      · exact .inl ⟨lv', List.mem_append_left _ z, h2⟩
      · rw [List.mem_singleton] at z; subst z
        rcases mem_addI.mp h2 with w | w
        · exact .inl ⟨lv, by simp, w⟩
        · exact .inr w
  · show (r ++ [_]).Pairwise _
    have hd := t.disj
    rw [hlvs] at hd
    rw [List.pairwise_append] at hd ⊢
    refine ⟨hd.1, by simp, fun a ha b hb x hx => ?_⟩
    rw [List.mem_singleton] at hb; subst hb
    have h0 := hd.2.2 a ha lv (by simp)
    intro z
    rcases mem_addI.mp z with w | w
    · exact h0 x hx w
    · subst w
      exact h0 x hx (hc ((t.mem x).mpr ⟨a, by rw [hlvs]; exact List.mem_append_left _ ha, hx⟩))
  · show ¬ -x ∈ addI S.vs l
    have hx' : x ∈ addI S.vs l := hx
    rw [mem_addI] at hx' ⊢
    rintro (z | z) <;> rcases hx' with w | w
    · exact t.cons x w z
    · subst w; exact hn z
    · have : x = -l := by omega
      subst this; exact hn w
    · have := hl.1; omega
  · rw [asg0_isV hln]
    show _ ↔ x ∈ addI S.vs l ∨ -x ∈ addI S.vs l
    rw [mem_addI, mem_addI]
    by_cases e : x.natAbs = l.natAbs
    · rw [if_pos e]
      have : x = l ∨ -x = l := by omega
      exact ⟨fun _ => this.elim (fun z => .inl (.inr z)) fun z => .inr (.inr z), fun _ => rfl⟩
    · rw [if_neg e, t.var x hx]
      have h1 : x ≠ l := fun z => e (by rw [z])
      have h2 : -x ≠ l := fun z => e (by rw [← z]; simp)
      simp [h1, h2]
theorem PI.pop (h : PI CL M r lv nx S) (hq : S.que = q ++ [l]) (hn : -l ∉ S.vs) (ho : ∀ c ∈ S.sent (-l), c ∈ ord) :
    PI CL M r { lv with lits := addI lv.lits l } (exl l ord) (asg0 { S with que := q } r lv l) := by
  have hlq : l ∈ S.que := by rw [hq]; simp
  have hll := h.que l hlq
  have hq' : ∀ x ∈ q, x ∈ S.que := fun x hx => by rw [hq]; exact List.mem_append_left _ hx
  have t0 : Tl { S with que := q } := ⟨⟨h.tl.wf.n, h.tl.wf.vars, h.tl.wf.vs, h.tl.wf.vsN, h.tl.wf.cls, h.tl.wf.lits, h.tl.wf.sent, h.tl.wf.lvs, h.tl.wf.lv⟩, h.tl.mem, h.tl.disj, h.tl.cons, h.tl.var⟩
  refine ⟨t0.asg0 h.lvs hll hn (h.qcur l hlq), ⟨h.wt.se1, h.wt.se2, h.wt.se3⟩, rfl, h.pre, fun x hx => h.que x (hq' x hx), fun x hx hv => ?_, fun ρ hρ x hx => h.mq ρ hρ x (hq' x hx), fun ρ hρ x hx => ?_, h.mc, fun cl e1 e2 => ?_, h.wlow, ?_, ?_⟩
  · show x ∈ addI lv.lits l
    have hv' : x ∈ addI S.vs l := hv
    rw [mem_addI] at hv' ⊢
    exact hv'.imp (h.qcur x (hq' x hx)) id
  · have hx' : x ∈ addI S.vs l := hx
    rcases mem_addI.mp hx' with z | z
    · exact h.mv ρ hρ x z
    · subst z; exact h.mq ρ hρ x hlq
  · obtain ⟨x, hx, o⟩ := h.unit cl e1 e2
    refine ⟨x, hx, ?_⟩
    show (r = [] ∧ x ∈ q) ∨ ∃ lv', (r ++ [{ lv with lits := addI lv.lits l }])[0]? = some lv' ∧ x ∈ lv'.lits
    rcases o with ⟨o1, o2⟩ | ⟨lv', o1, o2⟩
    · subst o1
      rw [hq] at o2
      rcases List.mem_append.mp o2 with z | z
      · exact .inl ⟨rfl, z⟩
      · rw [List.mem_singleton] at z; subst z
        exact .inr ⟨_, rfl, mem_addI.mpr (.inr rfl)⟩
    · rw [h.lvs] at o1
      cases r with
      | nil => simp at o1; subst o1; exact .inr ⟨_, rfl, mem_addI.mpr (.inl o2)⟩
      | cons a r => simp at o1; subst o1; exact .inr ⟨_, rfl, o2⟩
  · intro k cl a e1 e2 e3 e4 e5
    show (∃ t ∈ cl, t ∈ addI S.vs l) ∨ ∃ x ∈ q, x ∈ cl
    have e3' : (k : Int) ∈ S.sent a := e3
    have e5' : -a ∈ addI lv.lits l := e5
    rcases mem_addI.mp e5' with z | z
    · rcases h.wcur k cl a e1 e2 e3' (fun w => w) z with ⟨t, p1, p2⟩ | ⟨x, p1, p2⟩
      · exact .inl ⟨t, p1, mem_addI.mpr (.inl p2)⟩
      · rw [hq] at p1
        rcases List.mem_append.mp p1 with w | w
        · exact .inr ⟨x, w, p2⟩
        · rw [List.mem_singleton] at w; subst w; exact .inl ⟨x, p2, mem_addI.mpr (.inr rfl)⟩
    · have : a = -l := by omega
      subst this
      exact absurd ⟨rfl, ho _ e3'⟩ e4
  · intro q1 o q2 e1 e2 c' e3 e4
    have e2' : o ∈ addI S.vs l := e2
    have e3' : c' ∈ S.sent (-o) := e3
    have e1' : q = q1 ++ o :: q2 := e1
    show (asg0 { S with que := q } r lv l).satC (clOf S c') = true ∨ (∃ x ∈ q2, x ∈ clOf S c') ∨ (clOf S c').length < 2
    by_cases hol : o = l
    · subst hol
      exact absurd ⟨rfl, ho _ e3'⟩ e4
    · have ho' : o ∈ S.vs := (mem_addI.mp e2').resolve_right hol
      rcases h.lifo q1 o (q2 ++ [l]) (by rw [hq, e1']; simp) ho' c' e3' (fun w => w) with p | ⟨x, p1, p2⟩ | p
      · obtain ⟨t, a, b⟩ := satC_iff.mp p
        exact .inl (satC_iff.mpr ⟨t, a, mem_addI.mpr (.inl b)⟩)
      · rcases List.mem_append.mp p1 with w | w
        · exact .inr (.inl ⟨x, w, p2⟩)
        · rw [List.mem_singleton] at w; subst w
          exact .inl (satC_iff.mpr ⟨x, p2, mem_addI.mpr (.inr rfl)⟩)
      · exact .inr (.inr p)
theorem PI.fold (h : PI CL M r lv (exl l ord) S) (hl : l ∈ S.vs) (hn : ord.Nodup) (hc : ∀ c ∈ ord, c ∈ S.sent (-l)) :
    PI CL M r lv nx (ord.foldl (Dp.stepC l) S) ∧ Same S (ord.foldl (Dp.stepC l) S) ∧ (ord.foldl (Dp.stepC l) S).vars = S.vars ∧ (ord.foldl (Dp.stepC l) S).que.length ≤ S.que.length + ord.length := by
  induction ord generalizing S with
  | nil =>
    refine ⟨h.withEx (fun k cl a e1 e2 e3 e4 => h.wcur k cl a e1 e2 e3 fun z => ?_) (fun q1 o q2 e1 e2 c' e3 e4 => h.lifo q1 o q2 e1 e2 c' e3 fun z => ?_), .refl, rfl, Nat.le_refl _⟩
    · exact absurd z.2 (by simp)
    · exact absurd z.2 (by simp)
  | cons c ord ih =>
    rw [List.nodup_cons] at hn
    have e := stepC_cls (S := S) (lit := l) (c := c)
    have h1 := h.stepC hl (hc c (by simp))
    obtain ⟨a, b, d, f⟩ := ih h1 (by rw [e.2.2.2.1]; exact hl) hn.2 fun c' hc' => stepC_keep (fun z => hn.1 (z ▸ hc')) (hc c' (by simp [hc']))
    refine ⟨a, Same.stepC.trans b, d.trans e.2.2.2.2.1, ?_⟩
    have := stepC_que (S := S) (lit := l) (c := c)
    simp only [List.foldl_cons, List.length_cons]
    omega
theorem stepC_dup (h : S.satC (clOf S c) = true ∨ ((clOf S c).length < 2 ∧ -l ∈ clOf S c)) : (stepC l S c).que = S.que := by
  unfold stepC
  show (if S.satC (clOf S c) = true then S else _).que = _
  rcases h with h | ⟨h1, h2⟩
  · rw [if_pos h]
  · split
    · rfl
    · have : clOf S c = [-l] := by
        cases q : clOf S c with
        | nil => rw [q] at h2; cases h2
        | cons x t => rw [q] at h1 h2; cases t with | nil => simp at h2; rw [h2] | cons _ _ => (exfalso; simp at h1; omega)
      show (match scanC S c (-l) (clOf S c) none with | .inl x => moveC S c (-l) x | .inr none => S | .inr (some o) => { S with que := S.que ++ [o] }).que = S.que
      rw [this]; simp [scanC]
theorem fold_dup (h : ∀ c ∈ ord, S.satC (clOf S c) = true ∨ ((clOf S c).length < 2 ∧ -l ∈ clOf S c)) : (ord.foldl (Dp.stepC l) S).que = S.que := by
  induction ord generalizing S with
  | nil => rfl
  | cons c ord ih =>
    have e := stepC_cls (S := S) (lit := l) (c := c)
    rw [List.foldl_cons, ih, stepC_dup (h c (by simp))]
    intro c' hc'
    have := h c' (by simp [hc'])
    unfold clOf SV.satC at this ⊢
    rw [e.1, e.2.2.2.1]; exact this
theorem count_set : ∀ {l : List Bool} {i : Nat}, l[i]? = some false → (l.set i true).countP (!·) + 1 = l.countP (!·)
  | [], i, h => by simp at h
  | a :: l, 0, h => by simp at h; subst h; simp
  | a :: l, i + 1, h => by
    have := count_set (l := l) (i := i) (by simpa using h)
    rw [List.set_cons_succ, List.countP_cons, List.countP_cons]; omega
theorem count_set_le : ∀ {l : List Bool} {i : Nat}, (l.set i true).countP (!·) ≤ l.countP (!·)
  | [], i => by simp
  | a :: l, 0 => by rw [List.set_cons_zero, List.countP_cons, List.countP_cons]; simp
  | a :: l, i + 1 => by
    have := count_set_le (l := l) (i := i)
    rw [List.set_cons_succ, List.countP_cons, List.countP_cons]; omega
def upM (S : SV) : Nat := S.vars.countP (!·) * 201 + S.que.length
theorem PI.next (h : PI CL M r lv nx S) (hcz : S.cls.length ≤ 200) (hq : S.que = q ++ [l]) (hn : -l ∉ S.vs) (hord : ord.Perm (S.sent (-l))) :
    ∃ lv', PI CL M r lv' nx (ord.foldl (Dp.stepC l) (asg0 { S with que := q } r lv l)) ∧ LvUp lv lv' ∧ l ∈ lv'.lits ∧ Same S (ord.foldl (Dp.stepC l) (asg0 { S with que := q } r lv l)) ∧ upM (ord.foldl (Dp.stepC l) (asg0 { S with que := q } r lv l)) < upM S := by
  have hlq : l ∈ S.que := by rw [hq]; simp
  have hll := h.que l hlq
  have hs := h.tl.wf.sent (-l) hll.neg
  have h1 := h.pop (ord := ord) hq hn fun c hc => hord.mem_iff.mpr hc
  have hin : l ∈ (asg0 { S with que := q } r lv l).vs := mem_addI.mpr (.inr rfl)
  obtain ⟨a, b, d, f⟩ := h1.fold hin (hord.nodup_iff.mpr hs.1) fun c hc => hord.mem_iff.mp hc
  refine ⟨_, a, ⟨rfl, rfl, rfl, rfl, fun x hx => mem_addI.mpr (.inl hx)⟩, mem_addI.mpr (.inr rfl), (⟨rfl, rfl, rfl, rfl, rfl, rfl, rfl, rfl⟩ : Same S (asg0 { S with que := q } r lv l)).trans b, ?_⟩
  have hlen : ord.length ≤ 200 := by
    have := nodup_ints_le hs.1 hs.2
    rw [hord.length_eq]; omega
  have hql : S.que.length = q.length + 1 := by rw [hq]; simp
  have f' : (ord.foldl (Dp.stepC l) (asg0 { S with que := q } r lv l)).que.length ≤ q.length + ord.length := f
  have d' : (ord.foldl (Dp.stepC l) (asg0 { S with que := q } r lv l)).vars = S.vars.set l.natAbs true := d
  unfold upM
  rw [d']
  by_cases hv : l ∈ S.vs
  · have : (ord.foldl (Dp.stepC l) (asg0 { S with que := q } r lv l)).que = q := by
      refine fold_dup fun c hc => ?_
      have hcs := hord.mem_iff.mp hc
      rcases h.lifo q l [] hq hv c hcs (fun w => w) with p | ⟨x, p, _⟩ | p
      · obtain ⟨t, x, y⟩ := satC_iff.mp p
        exact .inl (satC_iff.mpr ⟨t, x, mem_addI.mpr (.inl y)⟩)
      · cases p
      · exact .inr ⟨p, h.wt.se1 _ _ hcs⟩
    rw [this]
    have := count_set_le (l := S.vars) (i := l.natAbs)
    omega
  · have hV : S.isV l = false := by
      cases z : S.isV l with
      | false => rfl
      | true => exact absurd ((h.tl.var l hll).mp z) (fun w => w.elim hv hn)
    have hlt : l.natAbs < S.vars.length := by rw [h.tl.wf.vars]; have := hll.2; omega
    have hvi : S.vars[l.natAbs]? = some false := by
      unfold SV.isV at hV; rw [List.getD_eq_getElem?_getD, List.getElem?_eq_getElem hlt] at hV
      rw [List.getElem?_eq_getElem hlt]; exact congrArg some hV
    have := count_set hvi
    omega
theorem PI.pre' (h : PI CL M r lv nx S) (hp : 8 ≤ S.ph ∧ S.ph ≤ 20) (hu : upM S < 5000) : UPpre S := ⟨h.tl.wf, h.que, by unfold upM at hu; omega, hp, by rw [h.lvs]; simp⟩
theorem snoc_inj {α : Type} {a b : List α} {x y : α} (e : a ++ [x] = b ++ [y]) : a = b ∧ x = y := by
  obtain ⟨p, q⟩ := List.append_inj' e rfl
  injection q with q
  exact ⟨p, q⟩
theorem PI.safe (h : PI CL M r lv nx S) (hcz : S.cls.length ≤ 200) (hp : 8 ≤ S.ph ∧ S.ph ≤ 20) {k : Nat} (hk : upM S ≤ k) (hu : upM S < 5000) : UPsafe k S := by
  induction k generalizing S lv with
  | zero =>
    refine ⟨h.pre' hp hu, fun S1 ⟨q, l, r', lv', ord, e1, _⟩ => ?_⟩
    have : S.que.length = q.length + 1 := by rw [e1]; simp
    unfold upM at hk; omega
  | succ k ih =>
    refine ⟨h.pre' hp hu, fun S1 ⟨q, l, r', lv', ord, e1, e2, e3, e4, e5⟩ => ?_⟩
    obtain ⟨rfl, rfl⟩ := snoc_inj (h.lvs.symm.trans e3)
    obtain ⟨lv'', a, _, _, b, d⟩ := h.next hcz e1 e2 e4
    subst e5
    exact ih a (by rw [b.cls]; exact hcz) (by rw [b.ph]; exact hp) (by omega) (by omega)
theorem PI.up {co : Bool} (x : UP S co S') : ∀ {lv : LV}, PI CL M r lv nx S → S.cls.length ≤ 200 → ∃ lv' S'', PI CL M r lv' nx S'' ∧ LvUp lv lv' ∧ Same S S'' ∧ (co = false → S' = S'' ∧ S''.que = []) ∧ (co = true → S' = { S'' with que := [], unsat := true } ∧ ∀ ρ, ¬ M ρ) := by
  induction x with
  | done hq => exact fun {lv} h _ => ⟨lv, _, h, .refl, .refl, fun _ => ⟨rfl, hq⟩, fun z => nomatch z⟩
  | @confl S q l hq hn =>
    refine fun {lv} h _ => ⟨lv, _, h, .refl, .refl, fun z => (nomatch z), fun _ => ⟨rfl, fun ρ hρ => ?_⟩⟩
    have hlq : l ∈ S.que := by rw [hq]; simp
    exact (tr_neg (h.que l hlq).1).mp (h.mv ρ hρ _ hn) (h.mq ρ hρ l hlq)
  | @step S S' q l r' lv0 ord co hq hn hlv hord _ ih =>
    intro lv h hcz
    obtain ⟨rfl, rfl⟩ := snoc_inj (h.lvs.symm.trans hlv)
    obtain ⟨lv1, a, u, _, b, d⟩ := h.next hcz hq hn hord
    obtain ⟨lv2, S2, a2, u2, b2, c1, c2⟩ := ih a (by rw [b.cls]; exact hcz)
    exact ⟨lv2, S2, a2, u.trans u2, b.trans b2, c1, c2⟩
end
end Dp
end
section
open PySem PySem.W PySem.Calls PyProof.Rows
namespace Dp
def Mdl (CL : List (List Int)) (n : Nat) (ρ : List Bool) : Prop := ρ.length = n ∧ ∀ cl ∈ CL, ∃ x ∈ cl, tr ρ x
structure Gb (CL : List (List Int)) (W : List Bool → Prop) (hist : List (List Bool)) (S : SV) : Prop where
  tl : Tl S
  wt : Wt S
  pre : ∃ ls, S.cls = CL ++ ls
  que : S.que = []
  uns : S.unsat = false
  ph : 10 ≤ S.ph ∧ S.ph ≤ 20
  sk : ∀ l, IsLit S.n l → l ∈ S.sk
  skz : S.sk.length ≤ 1000
  hpl : ∀ x ∈ S.hp, IsLit S.n x
  mc : ∀ ρ, W ρ → ∀ cl ∈ S.cls, ∃ x ∈ cl, tr ρ x
  wm : ∀ ρ, W ρ → Mdl CL S.n ρ
  h1 : ∀ ρ, Mdl CL S.n ρ → ¬ W ρ → ρ ∈ hist
  h2 : ∀ ρ ∈ hist, Mdl CL S.n ρ ∧ ¬ W ρ
  h3 : hist.Nodup
structure Bs (CL : List (List Int)) (W : List Bool → Prop) (S : SV) (r : List LV) : Prop where
  wl : Wlow CL S r
  sd0 : ∀ lv0, r[0]? = some lv0 → lv0.flip = false ∧ ∀ ρ, W ρ → ∀ t ∈ lv0.lits, tr ρ t
  sd : Sd W (r.drop 1)
  dec : ∀ lv ∈ r.drop 1, lv.dec ∈ lv.lits
  un : ∀ cl ∈ CL, cl.length = 1 → ∀ lv0, r[0]? = some lv0 → ∃ x ∈ cl, x ∈ lv0.lits
def remA (CL : List (List Int)) (S : SV) (ρ : List Bool) : Prop := Mdl CL S.n ρ ∧ Un (S.lvs.drop 1) ρ
def remX (CL : List (List Int)) (S : SV) (ρ : List Bool) : Prop := Mdl CL S.n ρ ∧ Rg (S.lvs.drop 1) ρ
structure Ast (CL : List (List Int)) (hist : List (List Bool)) (S : SV) : Prop where
  gb : Gb CL (remA CL S) hist S
  bs : Bs CL (remA CL S) S S.lvs
  ne : S.lvs ≠ []
  hp : ∀ x, IsLit S.n x → S.isV x = false → x ∈ S.hp
structure Fst (CL : List (List Int)) (hist : List (List Bool)) (S : SV) (r : List LV) (lv : LV) : Prop where
  lvs : S.lvs = r ++ [lv]
  ne : r ≠ []
  lits : lv.lits = []
  dl : IsLit S.n lv.dec
  dv : S.isV lv.dec = false
  gb : Gb CL (remA CL S) hist S
  bs : Bs CL (remA CL S) S r
  hp : ∀ x, IsLit S.n x → S.isV x = false → x.natAbs ≠ lv.dec.natAbs → x ∈ S.hp
structure Xst (CL : List (List Int)) (hist : List (List Bool)) (S : SV) (r : List LV) (lv : LV) : Prop where
  lvs : S.lvs = r ++ [lv]
  gb : Gb CL (remX CL S) hist S
  bs : Bs CL (remX CL S) S r
  hp : ∀ x, IsLit S.n x → S.isV x = false → x ∈ S.hp
  dec : r ≠ [] → lv.dec ∈ lv.lits
  flip0 : r = [] → lv.flip = false
section
variable {CL : List (List Int)} {W W' M : List Bool → Prop} {r L : List LV} {lv lv' : LV} {S S1 S2 S' : SV} {l : Int} {hist : List (List Bool)}
theorem Bs.mono (b : Bs CL W S r) (k : ∀ ρ, W' ρ → W ρ) : Bs CL W' S r :=
  ⟨b.wl, fun lv0 e => ⟨(b.sd0 lv0 e).1, fun ρ h => (b.sd0 lv0 e).2 ρ (k ρ h)⟩, b.sd.mono k, b.dec, b.un⟩
theorem Gb.same (g : Gb CL W hist S) (k : ∀ ρ, W' ρ ↔ W ρ) : Gb CL W' hist S := by
  have : W' = W := funext fun ρ => propext (k ρ)
  rw [this]; exact g
theorem drop_snoc (h : r ≠ []) : (r ++ [lv]).drop 1 = r.drop 1 ++ [lv] := by
  cases r with
  | nil => exact absurd rfl h
  | cons a r => rfl
theorem Bs.init (b : Bs CL W S (r ++ [lv])) : Bs CL W S r := by
  have at0 : ∀ lv0, r[0]? = some lv0 → (r ++ [lv])[0]? = some lv0 := fun lv0 e => by
    cases r with
    | nil => simp at e
    | cons a r => simpa using e
  have atk : ∀ {i : Nat} {lvi : LV}, r[i]? = some lvi → (r ++ [lv])[i]? = some lvi ∧ i < r.length := fun {i lvi} e => by
    have : i < r.length := by rcases Nat.lt_or_ge i r.length with q | q; exact q; rw [List.getElem?_eq_none q] at e; cases e
    exact ⟨by rw [List.getElem?_append_left this]; exact e, this⟩
  refine ⟨?_, fun lv0 e => b.sd0 lv0 (at0 lv0 e), ?_, fun x hx => b.dec x ?_, fun cl e1 e2 lv0 e => b.un cl e1 e2 lv0 (at0 lv0 e)⟩
  · intro k cl a e1 e2 e3 i lvi e4 e5
    obtain ⟨e4', hi⟩ := atk e4
    obtain ⟨j, lvj, h1, h2, t, h3, h4⟩ := b.wl k cl a e1 e2 e3 i lvi e4' e5
    exact ⟨j, lvj, h1, by rw [List.getElem?_append_left (by omega)] at h2; exact h2, t, h3, h4⟩
  · cases r with
    | nil => trivial
    | cons a r => have := b.sd; rw [drop_snoc (by simp)] at this; exact (Sd_snoc.mp this).1
  · cases r with
    | nil => simp at hx
    | cons a r => rw [drop_snoc (by simp)]; exact List.mem_append_left _ hx
theorem foldl_set_getD (ms : List Int) (bs : List Bool) (i : Nat) : (ms.foldl (fun b l => b.set l.natAbs false) bs).getD i false = if ∃ l ∈ ms, l.natAbs = i then false else bs.getD i false := by
  induction ms generalizing bs with
  | nil => simp
  | cons x ms ih =>
    rw [List.foldl_cons, ih]
    by_cases h : ∃ l ∈ ms, l.natAbs = i
    · rw [if_pos h, if_pos]; obtain ⟨l, a, b⟩ := h; exact ⟨l, .tail _ a, b⟩
    · rw [if_neg h]
      by_cases hx : x.natAbs = i
      · rw [if_pos ⟨x, .head _, hx⟩, List.getD_eq_getElem?_getD, ← hx]
        rcases Nat.lt_or_ge x.natAbs bs.length with q | q
        · rw [List.getElem?_set_self q]; rfl
        · rw [List.getElem?_eq_none (by rw [List.length_set]; exact q)]; rfl
      · rw [if_neg, List.getD_eq_getElem?_getD, List.getD_eq_getElem?_getD, List.getElem?_set_ne hx]
        rintro ⟨l, a, b⟩
        rcases List.mem_cons.mp a with rfl | a
        · exact hx b
        · exact h ⟨l, a, b⟩
theorem foldl_erase_nodup (ms : List Int) {bs : List Int} (h : bs.Nodup) : (ms.foldl List.erase bs).Nodup := by
  induction ms generalizing bs with
  | nil => exact h
  | cons x ms ih => exact ih (h.erase x)
theorem foldl_erase_len' {ms bs : List Int} (hm : ms.Nodup) (h : ∀ x ∈ ms, x ∈ bs) : (ms.foldl List.erase bs).length + ms.length = bs.length := by
  induction ms generalizing bs with
  | nil => simp
  | cons x ms ih =>
    rw [List.nodup_cons] at hm
    have hx := h x (.head _)
    have := ih (bs := bs.erase x) hm.2 fun y hy => (List.mem_erase_of_ne (fun z => hm.1 (by rw [← z]; exact hy))).mpr (h y (.tail _ hy))
    have h2 := List.length_erase_of_mem hx
    have h3 : 0 < bs.length := List.length_pos_of_mem hx
    simp only [List.foldl_cons, List.length_cons]; omega
theorem undo_tl {ms : List Int} (t : Tl S) (hl : S.lvs = r ++ [lv]) (hp : ms.Perm lv.lits) (u : Undo S ms S') : Tl { S' with lvs := r } ∧ (∀ x, ({ S' with lvs := r } : SV).isV x = true ↔ S.isV x = true ∧ ∀ y ∈ lv.lits, y.natAbs ≠ x.natAbs) ∧ S'.hp.length + 2 * S'.vs.length = S.hp.length + 2 * S.vs.length := by
  obtain ⟨hp', p, rfl⟩ := u.ex
  have hlv := t.wf.lv lv (by rw [hl]; simp)
  have hmn : ms.Nodup := hp.nodup_iff.mpr hlv.1
  have hsub : ∀ x ∈ ms, x ∈ S.vs := fun x hx => (t.mem x).mpr ⟨lv, by rw [hl]; simp, hp.mem_iff.mp hx⟩
  have hd := t.disj
  rw [hl, List.pairwise_append] at hd
  have hmem : ∀ x, x ∈ ms.foldl List.erase S.vs ↔ x ∈ S.vs ∧ x ∉ lv.lits := fun x => by rw [mem_foldl_erase t.wf.vsN, hp.mem_iff]
  have hV : ∀ x, (ms.foldl (fun b l => b.set l.natAbs false) S.vars).getD x.natAbs false = true ↔ S.isV x = true ∧ ∀ y ∈ lv.lits, y.natAbs ≠ x.natAbs := fun x : Int => by
    rw [foldl_set_getD]
    split
    · rename_i h
      obtain ⟨l, a, b⟩ := h
      simp only [Bool.false_eq_true, false_iff]
      exact fun h => h.2 l (hp.mem_iff.mp a) b
    · rename_i h
      exact ⟨fun z => ⟨z, fun y hy e => h ⟨y, hp.mem_iff.mpr hy, e⟩⟩, fun z => z.1⟩
  refine ⟨⟨⟨t.wf.n, ?_, fun l h => t.wf.vs l ((hmem l).mp h).1, foldl_erase_nodup ms t.wf.vsN, t.wf.cls, t.wf.lits, t.wf.sent, ?_, fun a ha => t.wf.lv a (by rw [hl]; exact List.mem_append_left _ ha)⟩, ?_, hd.1, ?_, ?_⟩, hV, ?_⟩
  · show (ms.foldl (fun b l => b.set l.natAbs false) S.vars).length = _; rw [vars_len]; exact t.wf.vars
  · have := t.wf.lvs; rw [hl, List.length_append] at this; show r.length ≤ 100; simp at this; omega
  · intro x
    show x ∈ ms.foldl List.erase S.vs ↔ ∃ a, a ∈ r ∧ x ∈ a.lits
    rw [hmem, t.mem, hl]
    constructor
    · rintro ⟨⟨a, h1, h2⟩, h3⟩
      rcases List.mem_append.mp h1 with z | z
      · exact ⟨a, z, h2⟩
      · rw [List.mem_singleton] at z; subst z; exact absurd h2 h3
    · rintro ⟨a, h1, h2⟩
      exact ⟨⟨a, List.mem_append_left _ h1, h2⟩, hd.2.2 a h1 lv (by simp) x h2⟩
  · intro x hx hx'
    exact t.cons x ((hmem x).mp hx).1 ((hmem (-x)).mp hx').1
  · intro x hx
    show (ms.foldl (fun b l => b.set l.natAbs false) S.vars).getD x.natAbs false = true ↔ x ∈ ms.foldl List.erase S.vs ∨ -x ∈ ms.foldl List.erase S.vs
    rw [hV, hmem, hmem, t.var x hx]
    have hin : ∀ y ∈ lv.lits, y ∈ S.vs := fun y hy => (t.mem y).mpr ⟨lv, by rw [hl]; simp, hy⟩
    constructor
    · rintro ⟨a, b⟩
      have h1 : x ∉ lv.lits := fun z => b x z rfl
      have h2 : -x ∉ lv.lits := fun z => b (-x) z (by simp)
      exact a.imp (fun z => ⟨z, h1⟩) fun z => ⟨z, h2⟩
    · intro a
      refine ⟨a.imp (fun z => z.1) (fun z => z.1), fun y hy e => ?_⟩
      have : y = x ∨ y = -x := by omega
      rcases a with ⟨a1, a2⟩ | ⟨a1, a2⟩ <;> rcases this with rfl | rfl
      · exact a2 hy
      · exact t.cons _ a1 (hin _ hy)
      · exact t.cons _ (hin _ hy) a1
      · exact a2 hy
  · have h1 := p.length_eq
    rw [List.length_append, both_len] at h1
    have h2 := foldl_erase_len' hmn hsub
    show hp'.length + 2 * (ms.foldl List.erase S.vs).length = _
    omega
theorem undo_hp {ms : List Int} (hl : lv ∈ S.lvs) (t : Tl S) (hp : ms.Perm lv.lits) (u : Undo S ms S') (hh : ∀ x, IsLit S.n x → S.isV x = false → x ∈ S.hp) (hpl : ∀ x ∈ S.hp, IsLit S.n x)
    (hV : ∀ x, ({ S' with lvs := r } : SV).isV x = true ↔ S.isV x = true ∧ ∀ y ∈ lv.lits, y.natAbs ≠ x.natAbs) :
    (∀ x, IsLit S.n x → ({ S' with lvs := r } : SV).isV x = false → x ∈ S'.hp) ∧ ∀ x ∈ S'.hp, IsLit S.n x := by
  obtain ⟨hp', p, rfl⟩ := u.ex
  refine ⟨fun x hx hv => ?_, fun x hx => ?_⟩
  · show x ∈ hp'
    rw [p.mem_iff, List.mem_append]
    by_cases h : S.isV x = true
    · refine .inr ?_
      have : ¬ ∀ y ∈ lv.lits, y.natAbs ≠ x.natAbs := fun z => by have := (hV x).mpr ⟨h, z⟩; rw [hv] at this; cases this
      have : ∃ y ∈ lv.lits, y.natAbs = x.natAbs := Classical.byContradiction fun n => this fun y hy e => n ⟨y, hy, e⟩
      obtain ⟨y, hy, e⟩ := this
      exact List.mem_flatMap.mpr ⟨y, hp.mem_iff.mpr hy, by unfold both; rw [e]; simp; omega⟩
    · rw [Bool.not_eq_true] at h; exact .inl (hh x hx h)
  · have hx' : x ∈ hp' := hx
    rw [p.mem_iff, List.mem_append] at hx'
    rcases hx' with z | z
    · exact hpl x z
    · obtain ⟨y, hy, e⟩ := List.mem_flatMap.mp z
      have hy' := (t.wf.lv lv hl).2 y (hp.mem_iff.mp hy)
      unfold both at e
      simp at e
      obtain ⟨a, b⟩ := hy'
      rcases e with e | e <;> exact ⟨by omega, by rw [e]; simp; exact b⟩
end
end Dp
end
section
open PySem PySem.W PySem.Calls PyProof.Rows
namespace Dp
section
variable {CL : List (List Int)} {W W' M : List Bool → Prop} {r L : List LV} {lv lv' : LV} {S S1 S2 S' : SV} {l : Int} {hist : List (List Bool)} {ord : List Int}
theorem Un_congr (h1 : lv'.dec = lv.dec) (h2 : lv'.flip = lv.flip) {ρ : List Bool} : Un (L ++ [lv']) ρ ↔ Un (L ++ [lv]) ρ := by
  induction L with
  | nil => simp only [List.nil_append, Un, h1, h2]
  | cons x L ih => rw [List.cons_append, List.cons_append, Un, Un, ih]
theorem Rg_congr (h1 : lv'.dec = lv.dec) (h2 : lv'.flip = lv.flip) {ρ : List Bool} : Rg (L ++ [lv']) ρ ↔ Rg (L ++ [lv]) ρ := by
  induction L with
  | nil => simp only [List.nil_append, Rg, h1, h2]
  | cons x L ih => rw [List.cons_append, List.cons_append, Rg, Rg, ih]
theorem Tl.que {q : List Int} (t : Tl S) : Tl { S with que := q } := ⟨⟨t.wf.n, t.wf.vars, t.wf.vs, t.wf.vsN, t.wf.cls, t.wf.lits, t.wf.sent, t.wf.lvs, t.wf.lv⟩, t.mem, t.disj, t.cons, t.var⟩
theorem Tl.queU {q : List Int} {b : Bool} (t : Tl S) : Tl { S with que := q, unsat := b } := ⟨⟨t.wf.n, t.wf.vars, t.wf.vs, t.wf.vsN, t.wf.cls, t.wf.lits, t.wf.sent, t.wf.lvs, t.wf.lv⟩, t.mem, t.disj, t.cons, t.var⟩
theorem Tl.hpz {q : List Int} (t : Tl S) : Tl { S with hp := q } := ⟨⟨t.wf.n, t.wf.vars, t.wf.vs, t.wf.vsN, t.wf.cls, t.wf.lits, t.wf.sent, t.wf.lvs, t.wf.lv⟩, t.mem, t.disj, t.cons, t.var⟩
theorem Tl.fresh (t : Tl S) {nl : LV} (hn : nl.lits = []) (hz : S.lvs.length < 100) : Tl { S with lvs := S.lvs ++ [nl] } := by
  refine ⟨⟨t.wf.n, t.wf.vars, t.wf.vs, t.wf.vsN, t.wf.cls, t.wf.lits, t.wf.sent, ?_, fun a ha => ?_⟩, fun x => ?_, ?_, t.cons, t.var⟩
  · show (S.lvs ++ [nl]).length ≤ 100; simp; omega
  · rcases List.mem_append.mp ha with z | z
    · exact t.wf.lv a z
    · rw [List.mem_singleton] at z; subst z; rw [hn]; exact ⟨List.nodup_nil, fun x h => nomatch h⟩
  · show x ∈ S.vs ↔ ∃ a, a ∈ S.lvs ++ [nl] ∧ x ∈ a.lits
    rw [t.mem]
    constructor
    · rintro ⟨a, h1, h2⟩; exact ⟨a, List.mem_append_left _ h1, h2⟩
    · rintro ⟨a, h1, h2⟩
      rcases List.mem_append.mp h1 with z | z
      · exact ⟨a, z, h2⟩
      · rw [List.mem_singleton] at z; subst z; rw [hn] at h2; cases h2
  · show (S.lvs ++ [nl]).Pairwise _
    rw [List.pairwise_append]
    refine ⟨t.disj, by simp, fun a ha b hb x hx => ?_⟩
    rw [List.mem_singleton] at hb; subst hb; rw [hn]; simp
theorem natAbs_le {l : List Int} {n : Nat} (hp : l.Pairwise fun a b => a.natAbs ≠ b.natAbs) (h : ∀ x ∈ l, IsLit n x) : l.length ≤ n := by
  have := nodup_ints_le (l := l.map fun x => (x.natAbs : Int) - 1) (k := n) (by
    rw [List.Nodup, List.pairwise_map]
    exact hp.imp fun {a b} e z => e (by omega)) fun c hc => by
      obtain ⟨x, hx, rfl⟩ := List.mem_map.mp hc
      obtain ⟨h1, h2⟩ := h x hx
      exact ⟨x.natAbs - 1, by omega, by omega⟩
  simpa using this
theorem decs_pair (t : Tl S) (hL : L.Sublist S.lvs) (hd : ∀ lv ∈ L, lv.dec ∈ lv.lits) : (L.map (·.dec)).Pairwise fun a b => a.natAbs ≠ b.natAbs := by
  rw [List.pairwise_map]
  have hin : ∀ a ∈ L, a.dec ∈ S.vs := fun a ha => (t.mem _).mpr ⟨a, hL.subset ha, hd a ha⟩
  have := (t.disj.sublist hL)
  refine List.Pairwise.imp_of_mem (fun {a b} ha hb e z => ?_) this
  rcases Int.natAbs_eq_natAbs_iff.mp z with w | w
  · exact e _ (hd a ha) (w ▸ hd b hb)
  · exact t.cons _ (hin b hb) (w ▸ hin a ha)
theorem decs_le (t : Tl S) (hL : L.Sublist S.lvs) (hd : ∀ lv ∈ L, lv.dec ∈ lv.lits) : L.length ≤ S.n := by
  have := natAbs_le (decs_pair t hL hd) (n := S.n) fun x hx => by
    obtain ⟨a, ha, rfl⟩ := List.mem_map.mp hx
    exact (t.wf.lv a (hL.subset ha)).2 _ (hd a ha)
  simpa using this
theorem decs_lt (t : Tl S) (hL : L.Sublist S.lvs) (hd : ∀ lv ∈ L, lv.dec ∈ lv.lits) {d : Int} (hdl : IsLit S.n d) (hdv : S.isV d = false) : L.length < S.n := by
  have hin : ∀ a ∈ L, a.dec ∈ S.vs := fun a ha => (t.mem _).mpr ⟨a, hL.subset ha, hd a ha⟩
  have := natAbs_le (l := L.map (·.dec) ++ [d]) (n := S.n) (by
    rw [List.pairwise_append]
    refine ⟨decs_pair t hL hd, by simp, fun a ha b hb => ?_⟩
    rw [List.mem_singleton] at hb; subst hb
    obtain ⟨a', ha', rfl⟩ := List.mem_map.mp ha
    obtain ⟨h1, h2⟩ := notV_vs t hdl hdv
    intro z
    rcases Int.natAbs_eq_natAbs_iff.mp z with w | w
    · exact h1 (w ▸ hin a' ha')
    · exact h2 (w ▸ hin a' ha')) fun x hx => by
      rcases List.mem_append.mp hx with z | z
      · obtain ⟨a, ha, rfl⟩ := List.mem_map.mp z
        exact (t.wf.lv a (hL.subset ha)).2 _ (hd a ha)
      · rw [List.mem_singleton] at z; subst z; exact hdl
  simp at this; omega
theorem PI.bs (h : PI CL M r lv nx S) (hq : S.que = []) (hW : ∀ ρ, W ρ → Bd ((r ++ [lv]).drop 1) ρ → M ρ) (b : Bs CL W S r) (hf : r = [] → lv.flip = false) (hd : r ≠ [] → lv.dec ∈ lv.lits) : Bs CL W S (r ++ [lv]) := by
  have hin : ∀ t ∈ lv.lits, t ∈ S.vs := fun t ht => (h.tl.mem t).mpr ⟨lv, by rw [h.lvs]; simp, ht⟩
  refine ⟨?_, ?_, ?_, ?_, ?_⟩
  · intro k cl a e1 e2 e3 i lvi e4 e5
    rcases snoc_get e4 with ⟨rfl, rfl⟩ | ⟨hi, e4'⟩
    · rcases h.wcur k cl a e1 e2 e3 (fun z => z) e5 with ⟨t, h1, h2⟩ | ⟨x, h1, _⟩
      · obtain ⟨a', h3, h4⟩ := (h.tl.mem t).mp h2
        rw [h.lvs] at h3
        obtain ⟨j, hj⟩ := List.getElem?_of_mem h3
        have : j < (r ++ [lvi]).length := by rcases Nat.lt_or_ge j (r ++ [lvi]).length with q | q; exact q; rw [List.getElem?_eq_none q] at hj; cases hj
        exact ⟨j, a', by simp at this; omega, hj, t, h1, h4⟩
      · rw [hq] at h1; cases h1
    · obtain ⟨j, lvj, h1, h2, t, h3, h4⟩ := h.wlow k cl a e1 e2 e3 i lvi e4' e5
      exact ⟨j, lvj, h1, by rw [List.getElem?_append_left (by omega)]; exact h2, t, h3, h4⟩
  · intro lv0 e
    cases r with
    | nil => simp at e; subst e; exact ⟨hf rfl, fun ρ hρ t ht => h.mv ρ (hW ρ hρ Bd_nil) t (hin t ht)⟩
    | cons a r => simp at e; subst e; exact b.sd0 a rfl
  · cases r with
    | nil => trivial
    | cons a r =>
      rw [drop_snoc (by simp), Sd_snoc]
      refine ⟨b.sd, fun ρ hρ hb ht t h1 => h.mv ρ (hW ρ hρ ?_) t (hin t h1)⟩
      rw [drop_snoc (by simp)]; exact Bd_snoc.mpr ⟨hb, ht⟩
  · intro x hx
    cases r with
    | nil => simp at hx
    | cons a r =>
      rw [drop_snoc (by simp)] at hx
      rcases List.mem_append.mp hx with z | z
      · exact b.dec x z
      · rw [List.mem_singleton] at z; subst z; exact hd (by simp)
  · intro cl e1 e2 lv0 e
    obtain ⟨x, hx, o⟩ := h.unit cl e1 e2
    refine ⟨x, hx, ?_⟩
    rcases o with ⟨_, o⟩ | ⟨lv1, o1, o2⟩
    · rw [hq] at o; cases o
    · rw [h.lvs, e] at o1; injection o1 with o1; subst o1; exact o2
theorem que_nil (h : S.que = []) : ({ S with que := [] } : SV) = S := by cases S; cases h; rfl
theorem vs_level (t : Tl S) (hl : S.lvs = r ++ [lv]) (hn : lv.lits = []) {x : Int} (hx : x ∈ S.vs) : ∃ a ∈ r, x ∈ a.lits := by
  obtain ⟨a, h1, h2⟩ := (t.mem x).mp hx
  rw [hl] at h1
  rcases List.mem_append.mp h1 with z | z
  · exact ⟨a, z, h2⟩
  · rw [List.mem_singleton] at z; subst z; rw [hn] at h2; cases h2
theorem Fst.up (h : Fst CL hist S r lv) (hcz : S.cls.length ≤ 200) (hord : ord.Perm (S.sent (-lv.dec))) :
    (∃ k, UPsafe k (ord.foldl (Dp.stepC lv.dec) (asg0 S r lv lv.dec))) ∧ ∀ c S2, UP (ord.foldl (Dp.stepC lv.dec) (asg0 S r lv lv.dec)) c S2 → ∃ lv2, LvUp lv lv2 ∧ S2.lvs = r ++ [lv2] ∧ S2.cls = S.cls ∧ S2.hp = S.hp ∧ S2.n = S.n ∧ S2.learn = S.learn ∧ S2.syms = S.syms ∧
      ((c = false ∧ S2.unsat = false ∧ Ast CL hist S2) ∨ (c = true ∧ S2.unsat = true ∧ Xst CL hist { S2 with unsat := false } r lv2)) := by
  obtain ⟨hdv1, hdv2⟩ := notV_vs h.gb.tl h.dl h.dv
  have hdrop : S.lvs.drop 1 = r.drop 1 ++ [lv] := by rw [h.lvs, drop_snoc h.ne]
  have hp0 : PI CL (fun ρ => remA CL S ρ ∧ Bd (S.lvs.drop 1) ρ) r lv nx { S with que := [lv.dec] } := by
    refine ⟨h.gb.tl.que, ⟨h.gb.wt.se1, h.gb.wt.se2, h.gb.wt.se3⟩, h.lvs, h.gb.pre, fun x hx => ?_, fun x hx hv => ?_, fun ρ hρ x hx => ?_, fun ρ hρ x hx => ?_, fun ρ hρ => h.gb.mc ρ hρ.1, fun cl e1 e2 => ?_, h.bs.wl, fun k cl a e1 e2 e3 e4 e5 => ?_, fun q1 o q2 e1 e2 => ?_⟩
    · rw [List.mem_singleton] at hx; subst hx; exact h.dl
    · rw [List.mem_singleton] at hx; subst hx; exact absurd hv hdv1
    · rw [List.mem_singleton] at hx; subst hx
      have := hρ.2; rw [hdrop] at this; exact (Bd_snoc.mp this).2
    · obtain ⟨a, h1, h2⟩ := vs_level h.gb.tl h.lvs h.lits hx
      have hb := hρ.2; rw [hdrop] at hb
      have hb := (Bd_snoc.mp hb).1
      cases hr : r with
      | nil => rw [hr] at h1; cases h1
      | cons lv0 T =>
        rw [hr] at h1
        rcases List.mem_cons.mp h1 with rfl | h1
        · exact (h.bs.sd0 a (by rw [hr]; rfl)).2 ρ hρ.1 x h2
        · exact h.bs.sd.at hρ.1 hb (by rw [hr]; exact h1) x h2
    · cases hr : r with
      | nil => exact absurd hr h.ne
      | cons lv0 T =>
        obtain ⟨x, h1, h2⟩ := h.bs.un cl e1 e2 lv0 (by rw [hr]; rfl)
        exact ⟨x, h1, .inr ⟨lv0, by show S.lvs[0]? = _; rw [h.lvs, hr]; rfl, h2⟩⟩
    · rw [h.lits] at e5; cases e5
    · have e1' : [lv.dec] = q1 ++ o :: q2 := e1
      have : o = lv.dec := by
        have : o ∈ [lv.dec] := by rw [e1']; simp
        simpa using this
      subst this; exact absurd e2 hdv1
  have hu : upM { S with que := [lv.dec] } < 5000 := by
    unfold upM
    show S.vars.countP (!·) * 201 + 1 < 5000
    have h1 : S.vars.countP (!·) ≤ S.vars.length := List.countP_le_length
    have h2 := h.gb.tl.wf.vars
    have h3 := h.gb.tl.wf.n
    omega
  obtain ⟨lv1, p1, u1, d1, s1, m1⟩ := hp0.next (q := []) hcz rfl hdv2 hord
  have he : ({ ({ S with que := [lv.dec] } : SV) with que := [] } : SV) = S := que_nil h.gb.que
  rw [he] at p1 s1 m1
  generalize hS1 : ord.foldl (Dp.stepC lv.dec) (asg0 S r lv lv.dec) = S1 at p1 s1 m1 ⊢
  have hph : 8 ≤ S1.ph ∧ S1.ph ≤ 20 := by have : S1.ph = S.ph := s1.ph; have := h.gb.ph; omega
  have hc1 : S1.cls.length ≤ 200 := by rw [s1.cls]; exact hcz
  refine ⟨⟨upM S1, p1.safe hc1 hph (Nat.le_refl _) (by omega)⟩, fun c S2 hx => ?_⟩
  obtain ⟨lv2, S3, p2, u2, s2, c1, c2⟩ := p1.up hx hc1
  have s3 := s1.trans s2
  have u3 := u1.trans u2
  have hd2 : lv.dec ∈ lv2.lits := u2.lits _ d1
  have hdd : lv2.dec = lv.dec := u3.dec
  have hn : S3.n = S.n := s3.n
  have hcl : S3.cls = S.cls := s3.cls
  have hhp : S3.hp = S.hp := s3.hp
  have hUn : ∀ ρ, Un ((r ++ [lv2]).drop 1) ρ ↔ Un (S.lvs.drop 1) ρ := fun ρ => by rw [hdrop, drop_snoc h.ne]; exact Un_congr u3.dec u3.flip
  have hRg : ∀ ρ, Rg ((r ++ [lv2]).drop 1) ρ ↔ Rg (S.lvs.drop 1) ρ := fun ρ => by rw [hdrop, drop_snoc h.ne]; exact Rg_congr u3.dec u3.flip
  have hBd : ∀ ρ, Bd ((r ++ [lv2]).drop 1) ρ ↔ Bd (S.lvs.drop 1) ρ := fun ρ => by rw [hdrop, drop_snoc h.ne, Bd_snoc, Bd_snoc, hdd]
  have hph3 : S3.ph = S.ph := s3.ph
  have hsk3 : S3.sk = S.sk := s3.sk
  have huns : S3.unsat = false := s3.unsat.trans h.gb.uns
  have hHP : ∀ x, IsLit S3.n x → S3.isV x = false → x ∈ S.hp := fun x hx hv => by
    obtain ⟨v1, v2⟩ := notV_vs p2.tl hx hv
    have sub : ∀ y, y ∈ S.vs → y ∈ S3.vs := fun y hy => by
      obtain ⟨a, g1, g2⟩ := vs_level h.gb.tl h.lvs h.lits hy
      exact (p2.tl.mem y).mpr ⟨a, by rw [p2.lvs]; exact List.mem_append_left _ g1, g2⟩
    have hdin : lv.dec ∈ S3.vs := (p2.tl.mem _).mpr ⟨lv2, by rw [p2.lvs]; simp, hd2⟩
    refine h.hp x (hn ▸ hx) ?_ fun z => ?_
    · cases q : S.isV x with
      | false => rfl
      | true =>
        rcases (h.gb.tl.var x (hn ▸ hx)).mp q with w | w
        · exact absurd (sub _ w) v1
        · exact absurd (sub _ w) v2
    · rcases Int.natAbs_eq_natAbs_iff.mp z with w | w
      · exact v1 (w ▸ hdin)
      · exact v2 (by rw [w, Int.neg_neg]; exact hdin)
  cases c with
  | false =>
    obtain ⟨rfl, hq⟩ := c1 rfl
    have hW : ∀ ρ, remA CL S2 ρ ↔ remA CL S ρ := fun ρ => by unfold remA; rw [hn, p2.lvs, hUn]
    refine ⟨lv2, u3, p2.lvs, hcl, hhp, hn, s3.learn, s3.syms, .inl ⟨rfl, huns, ?_⟩⟩
    refine ⟨⟨p2.tl, p2.wt, p2.pre, hq, huns, hph3 ▸ h.gb.ph, fun l hl => by rw [hsk3]; exact h.gb.sk l (hn ▸ hl), by rw [hsk3]; exact h.gb.skz, fun x hx => by rw [hn]; exact h.gb.hpl x (hhp ▸ hx), fun ρ hρ => by rw [hcl]; exact h.gb.mc ρ ((hW ρ).mp hρ), fun ρ hρ => hρ.1, fun ρ hρ hw => h.gb.h1 ρ (hn ▸ hρ) fun z => hw ((hW ρ).mpr z), fun ρ hρ => ?_, h.gb.h3⟩, ?_, by rw [p2.lvs]; simp, fun x hx hv => by rw [hhp]; exact hHP x hx hv⟩
    · obtain ⟨a, b⟩ := h.gb.h2 ρ hρ
      exact ⟨hn.symm ▸ a, fun z => b ((hW ρ).mp z)⟩
    · rw [p2.lvs]
      refine p2.bs hq (fun ρ hρ hb => ⟨(hW ρ).mp hρ, (hBd ρ).mp hb⟩) ?_ (fun z => absurd z h.ne) fun _ => by rw [hdd]; exact hd2
      exact ⟨p2.wlow, fun lv0 e => ⟨(h.bs.sd0 lv0 e).1, fun ρ hρ => (h.bs.sd0 lv0 e).2 ρ ((hW ρ).mp hρ)⟩, h.bs.sd.mono fun ρ hρ => (hW ρ).mp hρ, h.bs.dec, h.bs.un⟩
  | true =>
    obtain ⟨rfl, hM⟩ := c2 rfl
    refine ⟨lv2, u3, p2.lvs, hcl, hhp, hn, s3.learn, s3.syms, .inr ⟨rfl, rfl, ?_⟩⟩
    have hW : ∀ ρ, remX CL { S3 with que := [], unsat := false } ρ ↔ remA CL S ρ := fun ρ => by
      unfold remX remA
      show Mdl CL S3.n ρ ∧ Rg (S3.lvs.drop 1) ρ ↔ _
      rw [hn, p2.lvs, hRg, Un_iff]
      refine ⟨fun z => ⟨z.1, .inr z.2⟩, fun z => ⟨z.1, z.2.resolve_left fun w => hM ρ ⟨⟨z.1, Un_iff.mpr (.inl w)⟩, w⟩⟩⟩
    refine ⟨p2.lvs, ⟨p2.tl.queU, ⟨p2.wt.se1, p2.wt.se2, p2.wt.se3⟩, p2.pre, rfl, rfl, by show 10 ≤ S3.ph ∧ _; rw [hph3]; exact h.gb.ph, fun l hl => by show l ∈ S3.sk; rw [hsk3]; exact h.gb.sk l (hn ▸ hl), by show S3.sk.length ≤ _; rw [hsk3]; exact h.gb.skz, fun x hx => ?_, fun ρ hρ => ?_, fun ρ hρ => hρ.1, fun ρ hρ hw => h.gb.h1 ρ (hn ▸ hρ) fun z => hw ((hW ρ).mpr z), fun ρ hρ => ?_, h.gb.h3⟩, ?_, ?_, fun _ => by rw [hdd]; exact hd2, fun z => absurd z h.ne⟩
    · have hx' : x ∈ S3.hp := hx
      show IsLit S3.n x; rw [hn]; exact h.gb.hpl x (hhp ▸ hx')
    · show ∀ cl ∈ S3.cls, _; rw [hcl]; exact h.gb.mc ρ ((hW ρ).mp hρ)
    · obtain ⟨a, b⟩ := h.gb.h2 ρ hρ
      exact ⟨by show Mdl CL S3.n ρ; exact hn.symm ▸ a, fun z => b ((hW ρ).mp z)⟩
    · exact ⟨p2.wlow, fun lv0 e => ⟨(h.bs.sd0 lv0 e).1, fun ρ hρ => (h.bs.sd0 lv0 e).2 ρ ((hW ρ).mp hρ)⟩, h.bs.sd.mono fun ρ hρ => (hW ρ).mp hρ, h.bs.dec, h.bs.un⟩
    · intro x hx hv; show x ∈ S3.hp; rw [hhp]; exact hHP x hx hv
end
end Dp
end
section
open PySem PySem.W PySem.Calls PyProof.Rows
namespace Dp
section
variable {CL : List (List Int)} {W W' M : List Bool → Prop} {r L : List LV} {lv lv' nl : LV} {S S1 S2 S' : SV} {l : Int} {hist : List (List Bool)} {ord ms : List Int}
theorem drop_one_mem {L : List LV} {x : LV} (h : x ∈ L.drop 1) : x ∈ L := List.mem_of_mem_drop h
theorem Ast.decide (h : Ast CL hist S) {pop hp : List Int} (h1 : ∀ x ∈ pop, S.isV x = true) (h2 : S.isV l = false) (h3 : (pop ++ l :: hp).Perm S.hp) (hd : nl.dec = l) (hf : nl.flip = false) (hl : nl.lits = []) :
    Fst CL hist { S with hp := hp, lvs := S.lvs ++ [nl] } S.lvs nl ∧ (S.lvs.drop 1).length < S.n ∧ hp.length ≤ S.hp.length ∧ IsLit S.n l := by
  have hll : IsLit S.n l := h.gb.hpl l (h3.mem_iff.mp (by simp))
  have hlt := decs_lt h.gb.tl (List.drop_sublist 1 S.lvs) h.bs.dec hll h2
  have hn := h.gb.tl.wf.n
  have hlen : S.lvs.length < 100 := by rw [List.length_drop] at hlt; omega
  have hdr : (S.lvs ++ [nl]).drop 1 = S.lvs.drop 1 ++ [nl] := drop_snoc h.ne
  have hW : ∀ ρ, remA CL { S with hp := hp, lvs := S.lvs ++ [nl] } ρ ↔ remA CL S ρ := fun ρ => by
    unfold remA
    show Mdl CL S.n ρ ∧ Un ((S.lvs ++ [nl]).drop 1) ρ ↔ _
    rw [hdr, Un_snoc hf]
  refine ⟨⟨rfl, h.ne, hl, by rw [hd]; exact hll, by rw [hd]; exact h2, ?_, ?_, fun x hx hv hne => ?_⟩, hlt, ?_, hll⟩
  · refine ⟨(h.gb.tl.fresh hl hlen).hpz, ⟨h.gb.wt.se1, h.gb.wt.se2, h.gb.wt.se3⟩, h.gb.pre, h.gb.que, h.gb.uns, h.gb.ph, h.gb.sk, h.gb.skz, fun x hx => h.gb.hpl x (h3.mem_iff.mp ?_), fun ρ hρ => h.gb.mc ρ ((hW ρ).mp hρ), fun ρ hρ => hρ.1, fun ρ hρ hw => h.gb.h1 ρ hρ fun z => hw ((hW ρ).mpr z), fun ρ hρ => ?_, h.gb.h3⟩
    · exact List.mem_append_right _ (.tail _ hx)
    · obtain ⟨a, b⟩ := h.gb.h2 ρ hρ
      exact ⟨a, fun z => b ((hW ρ).mp z)⟩
  · have b := h.bs.mono fun ρ hρ => (hW ρ).mp hρ
    exact ⟨b.wl, b.sd0, b.sd, b.dec, b.un⟩
  · rw [hd] at hne
    have hv' : S.isV x = false := hv
    have := h3.mem_iff.mpr (h.hp x hx hv')
    rcases List.mem_append.mp this with z | z
    · rw [h1 x z] at hv'; cases hv'
    · rcases List.mem_cons.mp z with z | z
      · exact absurd (by rw [z]) hne
      · exact z
  · have := h3.length_eq; simp at this; omega
def rowOf (S : SV) : List Bool := (List.range S.n).map fun (k : Nat) => decide (((k : Int) + 1) ∈ S.vs)
theorem rowOf_getD {k : Nat} (hk : k < S.n) : (rowOf S).getD k false = decide (((k : Int) + 1) ∈ S.vs) := by
  unfold rowOf
  rw [List.getD_eq_getElem?_getD, List.getElem?_map, List.getElem?_range hk]; rfl
theorem tr_rowOf (t : Tl S) (hc : ∀ x, IsLit S.n x → S.isV x = true) {x : Int} (hx : IsLit S.n x) : tr (rowOf S) x ↔ x ∈ S.vs := by
  obtain ⟨h0, hn⟩ := hx
  have e : ((x.natAbs - 1 : Nat) : Int) + 1 = x.natAbs := by omega
  unfold tr
  rw [rowOf_getD (by omega), e]
  rcases Int.lt_or_gt_of_ne h0 with q | q
  · have e2 : (x.natAbs : Int) = -x := by omega
    rw [e2, decide_eq_false (by omega : ¬ 0 < x)]
    rw [decide_eq_false_iff_not]
    constructor
    · intro h
      exact (((t.var x ⟨h0, hn⟩).mp (hc x ⟨h0, hn⟩))).resolve_right h
    · intro h; exact t.cons x h
  · have e2 : (x.natAbs : Int) = x := by omega
    rw [e2, decide_eq_true q, decide_eq_true_iff]
theorem row_eq (t : Tl S) (hc : ∀ x, IsLit S.n x → S.isV x = true) {ρ : List Bool} (hl : ρ.length = S.n) (h : ∀ x ∈ S.vs, tr ρ x) : ρ = rowOf S := by
  refine List.ext_getElem? fun k => ?_
  rcases Nat.lt_or_ge k S.n with hk | hk
  · have e1 : ρ[k]? = some (ρ.getD k false) := by rw [List.getD_eq_getElem?_getD, List.getElem?_eq_getElem (by omega)]; rfl
    have e2 : (rowOf S)[k]? = some ((rowOf S).getD k false) := by
      have : k < (rowOf S).length := by unfold rowOf; simpa using hk
      rw [List.getD_eq_getElem?_getD, List.getElem?_eq_getElem this]; rfl
    rw [e1, e2, rowOf_getD hk]
    have hx : IsLit S.n ((k : Int) + 1) := ⟨by omega, by omega⟩
    have hab : ((k : Int) + 1).natAbs - 1 = k := by omega
    have hab' : (-((k : Int) + 1)).natAbs - 1 = k := by omega
    rcases (t.var _ hx).mp (hc _ hx) with w | w
    · have := h _ w
      unfold tr at this
      rw [hab, decide_eq_true (by omega : 0 < (k : Int) + 1)] at this
      rw [this, decide_eq_true w]
    · have := h _ w
      unfold tr at this
      rw [hab', decide_eq_false (by omega : ¬ 0 < -((k : Int) + 1))] at this
      rw [this, decide_eq_false]
      intro z; exact t.cons _ z w
  · rw [List.getElem?_eq_none (by omega), List.getElem?_eq_none (by unfold rowOf; simpa using hk)]
theorem clause_met (t : Tl S) (wt : Wt S) (b : Bs CL W S S.lvs) (hne : S.lvs ≠ []) (pre : ∃ ls, S.cls = CL ++ ls) (hCL : ∀ cl ∈ CL, cl ≠ []) (hc : ∀ x, IsLit S.n x → S.isV x = true) : ∀ cl ∈ CL, ∃ x ∈ cl, x ∈ S.vs := by
  intro cl hm
  obtain ⟨k, hk⟩ := List.getElem?_of_mem hm
  have hk' : S.cls[k]? = some cl := by
    obtain ⟨ls, e⟩ := pre
    rw [e, List.getElem?_append_left]
    · exact hk
    · rcases Nat.lt_or_ge k CL.length with q | q
      · exact q
      · rw [List.getElem?_eq_none q] at hk; cases hk
  have hln : cl.length ≠ 0 := fun z => hCL cl hm (List.length_eq_zero_iff.mp z)
  by_cases h1 : cl.length = 1
  · cases hl : S.lvs with
    | nil => exact absurd hl hne
    | cons lv0 T =>
      obtain ⟨x, hx, h2⟩ := b.un cl hm h1 lv0 (by rw [hl]; rfl)
      exact ⟨x, hx, (t.mem x).mpr ⟨lv0, by rw [hl]; simp, h2⟩⟩
  · obtain ⟨a, _, _, ha, _⟩ := wt.se3 k cl hk' (by omega)
    have hac : a ∈ cl := by have := wt.se1 a k ha; rwa [clOf_at hk'] at this
    have hal : IsLit S.n a := t.wf.lits cl (List.mem_of_getElem? hk') a hac
    rcases (t.var a hal).mp (hc a hal) with w | w
    · exact ⟨a, hac, w⟩
    · obtain ⟨lvi, h2, h3⟩ := (t.mem _).mp w
      obtain ⟨i, hi⟩ := List.getElem?_of_mem h2
      obtain ⟨j, lvj, _, h4, x, h5, h6⟩ := b.wl k cl a hk (by omega) ha i lvi hi h3
      exact ⟨x, h5, (t.mem x).mpr ⟨lvj, List.mem_of_getElem? h4, h6⟩⟩
theorem Ast.told (h : Ast CL hist S) (hCL : ∀ cl ∈ CL, cl ≠ []) (hall : ∀ x ∈ S.hp, S.isV x = true) (hl : S.lvs = r ++ [lv]) : (∀ x, IsLit S.n x → S.isV x = true) ∧ Xst CL (hist ++ [rowOf S]) { S with hp := [] } r lv := by
  have hc : ∀ x, IsLit S.n x → S.isV x = true := fun x hx => by
    cases q : S.isV x with
    | true => rfl
    | false => have := hall x (h.hp x hx q); rw [q] at this; cases this
  refine ⟨hc, ?_⟩
  have hmet := clause_met h.gb.tl h.gb.wt h.bs h.ne h.gb.pre hCL hc
  have tm := fun {x} (hx : IsLit S.n x) => tr_rowOf h.gb.tl hc hx
  have hrl : (rowOf S).length = S.n := by unfold rowOf; simp
  have hmd : Mdl CL S.n (rowOf S) := ⟨hrl, fun cl hcl => by
    obtain ⟨x, h1, h2⟩ := hmet cl hcl
    exact ⟨x, h1, (tm (h.gb.tl.wf.vs x h2)).mpr h2⟩⟩
  have hbd : Bd (S.lvs.drop 1) (rowOf S) := fun a ha => by
    have h1 := (h.gb.tl.mem _).mpr ⟨a, drop_one_mem ha, h.bs.dec a ha⟩
    exact (tm (h.gb.tl.wf.vs _ h1)).mpr h1
  have hwm : remA CL S (rowOf S) := ⟨hmd, Un_iff.mpr (.inl hbd)⟩
  have huniq : ∀ ρ, remA CL S ρ → Bd (S.lvs.drop 1) ρ → ρ = rowOf S := fun ρ hρ hb => by
    refine row_eq h.gb.tl hc hρ.1.1 fun x hx => ?_
    obtain ⟨a, h1, h2⟩ := (h.gb.tl.mem x).mp hx
    cases hs : S.lvs with
    | nil => exact absurd hs h.ne
    | cons lv0 T =>
      rw [hs] at h1
      rcases List.mem_cons.mp h1 with rfl | h1
      · exact (h.bs.sd0 a (by rw [hs]; rfl)).2 ρ hρ x h2
      · exact h.bs.sd.at hρ hb (by rw [hs]; exact h1) x h2
  have hXA : ∀ ρ, remX CL { S with hp := [] } ρ → remA CL S ρ := fun ρ hρ => ⟨hρ.1, Un_iff.mpr (.inr hρ.2)⟩
  refine ⟨hl, ⟨h.gb.tl.hpz, ⟨h.gb.wt.se1, h.gb.wt.se2, h.gb.wt.se3⟩, h.gb.pre, h.gb.que, h.gb.uns, h.gb.ph, h.gb.sk, h.gb.skz, fun x hx => (nomatch hx), fun ρ hρ => h.gb.mc ρ (hXA ρ hρ), fun ρ hρ => hρ.1, fun ρ hρ hw => ?_, fun ρ hρ => ?_, ?_⟩, ?_, fun x hx hv => ?_, fun hr => ?_, fun hr => ?_⟩
  · by_cases hA : remA CL S ρ
    · rcases Un_iff.mp hA.2 with b | g
      · rw [huniq ρ hA b]; simp
      · exact absurd ⟨hρ, g⟩ hw
    · exact List.mem_append_left _ (h.gb.h1 ρ hρ hA)
  · rcases List.mem_append.mp hρ with z | z
    · obtain ⟨a, b⟩ := h.gb.h2 ρ z
      exact ⟨a, fun w => b (hXA ρ w)⟩
    · rw [List.mem_singleton] at z; subst z
      exact ⟨hmd, fun w => Bd_not_Rg hbd w.2⟩
  · rw [List.nodup_append]
    refine ⟨h.gb.h3, by simp, fun a ha b hb z => ?_⟩
    rw [List.mem_singleton] at hb; subst hb
    exact (h.gb.h2 a ha).2 (z ▸ hwm)
  · have b : Bs CL (remA CL S) S r := by have := h.bs; rw [hl] at this; exact this.init
    have b := b.mono hXA
    exact ⟨b.wl, b.sd0, b.sd, b.dec, b.un⟩
  · have hv' : S.isV x = false := hv
    rw [hc x hx] at hv'; cases hv'
  · exact h.bs.dec lv (by rw [hl, drop_snoc hr]; simp)
  · exact (h.bs.sd0 lv (by rw [hl, hr]; rfl)).1
theorem Gb.undo (g : Gb CL W hist S) (hl : S.lvs = r ++ [lv]) (hp : ms.Perm lv.lits) (u : Undo S ms S') (hh : ∀ x, IsLit S.n x → S.isV x = false → x ∈ S.hp) :
    Gb CL W hist { S' with lvs := r } ∧ (∀ x, IsLit S.n x → ({ S' with lvs := r } : SV).isV x = false → x ∈ S'.hp) ∧ (∀ x, ({ S' with lvs := r } : SV).isV x = true ↔ S.isV x = true ∧ ∀ y ∈ lv.lits, y.natAbs ≠ x.natAbs) ∧ S'.hp.length + 2 * S'.vs.length = S.hp.length + 2 * S.vs.length ∧ S'.sent = S.sent ∧ S'.n = S.n ∧ S'.cls = S.cls ∧ S'.learn = S.learn ∧ S'.syms = S.syms := by
  obtain ⟨t, hV, hz⟩ := undo_tl g.tl hl hp u
  obtain ⟨h1, h2⟩ := undo_hp (r := r) (by rw [hl]; simp) g.tl hp u hh g.hpl hV
  obtain ⟨hp', p, rfl⟩ := u.ex
  exact ⟨⟨t, ⟨g.wt.se1, g.wt.se2, g.wt.se3⟩, g.pre, g.que, g.uns, g.ph, g.sk, g.skz, h2, g.mc, g.wm, g.h1, g.h2, g.h3⟩, h1, hV, hz, rfl, rfl, rfl, rfl, rfl⟩
theorem Xst.pop (h : Xst CL hist S r lv) (hf : lv.flip = true) (hp : ms.Perm lv.lits) (u : Undo S ms S') : r ≠ [] ∧ ∀ r' lv', r = r' ++ [lv'] → Xst CL hist { S' with lvs := r } r' lv' ∧ S'.hp.length + 2 * S'.vs.length = S.hp.length + 2 * S.vs.length ∧ S'.n = S.n ∧ S'.cls = S.cls ∧ S'.learn = S.learn ∧ S'.syms = S.syms := by
  have hr : r ≠ [] := fun z => by rw [h.flip0 z] at hf; cases hf
  refine ⟨hr, fun r' lv' e => ?_⟩
  obtain ⟨g, h1, _, hz, hs, hn, hc, hle, hsy⟩ := h.gb.undo h.lvs hp u h.hp
  have hW : ∀ ρ, remX CL { S' with lvs := r } ρ ↔ remX CL S ρ := fun ρ => by
    unfold remX
    show Mdl CL S'.n ρ ∧ Rg (r.drop 1) ρ ↔ _
    rw [hn, h.lvs, drop_snoc hr, Rg_snoc_flip hf]
  refine ⟨⟨e, g.same hW, ?_, fun x hx => h1 x (hn ▸ hx), fun z => ?_, fun z => ?_⟩, hz, hn, hc, hle, hsy⟩
  · have b := (e ▸ h.bs.mono fun ρ hρ => (hW ρ).mp hρ : Bs CL (remX CL { S' with lvs := r }) S (r' ++ [lv'])).init
    exact ⟨by have := b.wl; unfold Wlow at this ⊢; rw [show ({ S' with lvs := r } : SV).sent = S.sent from hs]; exact this, b.sd0, b.sd, b.dec, b.un⟩
  · exact h.bs.dec lv' (by rw [e, drop_snoc z]; simp)
  · exact (h.bs.sd0 lv' (by rw [e, z]; rfl)).1
theorem Xst.turn (h : Xst CL hist S r lv) (hr : r ≠ []) (hf : lv.flip = false) (hp : ms.Perm lv.lits) (u : Undo S ms S') (hd : nl.dec = -lv.dec) (hfl : nl.flip = true) (hnl : nl.lits = []) :
    Fst CL hist { S' with lvs := r ++ [nl] } r nl ∧ S'.hp.length + 2 * S'.vs.length = S.hp.length + 2 * S.vs.length ∧ S'.n = S.n ∧ S'.cls = S.cls ∧ S'.learn = S.learn ∧ S'.syms = S.syms := by
  obtain ⟨g, h1, hV, hz, hs, hn, hc, hle, hsy⟩ := h.gb.undo h.lvs hp u h.hp
  have hdl : IsLit S.n lv.dec := (h.gb.tl.wf.lv lv (by rw [h.lvs]; simp)).2 _ (h.dec hr)
  have hlz : r.length < 100 := by have := h.gb.tl.wf.lvs; rw [h.lvs] at this; simp at this; omega
  have hW : ∀ ρ, remA CL { S' with lvs := r ++ [nl] } ρ ↔ remX CL S ρ := fun ρ => by
    unfold remX remA
    show Mdl CL S'.n ρ ∧ Un ((r ++ [nl]).drop 1) ρ ↔ _
    rw [hn, h.lvs, drop_snoc hr, drop_snoc hr, Rg_turn hf hfl hd hdl.1]
  have tl2 : Tl { S' with lvs := r ++ [nl] } := g.tl.fresh hnl hlz
  refine ⟨⟨rfl, hr, hnl, ?_, ?_, ?_, ?_, fun x hx hv _ => h1 x (hn ▸ hx) hv⟩, hz, hn, hc, hle, hsy⟩
  · rw [hd]; exact hn.symm ▸ hdl.neg
  · show ({ S' with lvs := r } : SV).isV nl.dec = false
    cases q : ({ S' with lvs := r } : SV).isV nl.dec with
    | false => rfl
    | true => exact absurd (by rw [hd]; simp) (((hV nl.dec).mp q).2 lv.dec (h.dec hr))
  · have g' : Gb CL (remX CL S) hist { S' with lvs := r ++ [nl] } := ⟨tl2, ⟨g.wt.se1, g.wt.se2, g.wt.se3⟩, g.pre, g.que, g.uns, g.ph, g.sk, g.skz, g.hpl, g.mc, g.wm, g.h1, g.h2, g.h3⟩
    exact g'.same hW
  · have b := h.bs.mono fun ρ hρ => (hW ρ).mp hρ
    exact ⟨by have := b.wl; unfold Wlow at this ⊢; rw [show ({ S' with lvs := r ++ [nl] } : SV).sent = S.sent from hs]; exact this, b.sd0, b.sd, b.dec, b.un⟩
theorem Xst.over (h : Xst CL hist S [] lv) : ∀ ρ, Mdl CL S.n ρ ↔ ρ ∈ hist := fun ρ =>
  ⟨fun hρ => h.gb.h1 ρ hρ fun z => by have := z.2; rw [h.lvs] at this; exact this, fun hρ => (h.gb.h2 ρ hρ).1⟩
end
end Dp
end
section
open PySem PySem.W PySem.Calls PyProof.Rows
namespace Dp
section
variable {CL : List (List Int)} {W W' M : List Bool → Prop} {r L : List LV} {lv lv' nl : LV} {S S1 S2 S' : SV} {l : Int} {hist : List (List Bool)} {ord ms : List Int}
def lcl (S : SV) : List Int := (S.lvs.drop 1).map fun lv => -lv.dec
theorem clOf_lt {c x : Int} (h : x ∈ clOf S c) : c.toNat < S.cls.length := by
  rcases Nat.lt_or_ge c.toNat S.cls.length with q | q
  · exact q
  · unfold clOf at h; rw [List.getD_eq_getElem?_getD, List.getElem?_eq_none q] at h; cases h
theorem mem_learn {cl : List Int} {a z c y : Int} : c ∈ (learnS S cl a z).sent y ↔ c ∈ S.sent y ∨ (c = S.cls.length ∧ (y = a ∨ y = z)) := by
  show c ∈ updI (updI S.sent a (addI (S.sent a) S.cls.length)) z (addI (updI S.sent a (addI (S.sent a) S.cls.length) z) S.cls.length) y ↔ _
  unfold updI
  by_cases h1 : y = z
  · subst h1
    rw [if_pos rfl, mem_addI]
    by_cases h2 : y = a
    · subst h2; rw [if_pos rfl, mem_addI]; simp
    · rw [if_neg h2]; simp
  · rw [if_neg h1]
    by_cases h2 : y = a
    · subst h2; rw [if_pos rfl, mem_addI]; simp
    · rw [if_neg h2]; simp [h1, h2]
theorem Xst.learn (h : Xst CL hist S r lv) (hr : r ≠ []) (hf : lv.flip = false) (hcz : S.cls.length < 1000) :
    (∀ x ∈ lcl S, IsLit S.n x) ∧ (∃ q, lcl S = q ++ [-lv.dec]) ∧ (lcl S).length ≤ 100 ∧ ∃ a, (lcl S)[0]? = some a ∧ Xst CL hist (learnS S (lcl S) a (-lv.dec)) r lv := by
  have hdr : S.lvs.drop 1 = r.drop 1 ++ [lv] := by rw [h.lvs, drop_snoc hr]
  have hdec : ∀ x ∈ S.lvs.drop 1, x.dec ∈ x.lits := fun x hx => by
    rw [hdr] at hx
    rcases List.mem_append.mp hx with z | z
    · exact h.bs.dec x z
    · rw [List.mem_singleton] at z; subst z; exact h.dec hr
  have hlit : ∀ x ∈ S.lvs.drop 1, IsLit S.n x.dec := fun x hx => (h.gb.tl.wf.lv x (drop_one_mem hx)).2 _ (hdec x hx)
  have hl1 : ∀ x ∈ lcl S, IsLit S.n x := fun x hx => by
    obtain ⟨a, ha, rfl⟩ := List.mem_map.mp hx
    exact (hlit a ha).neg
  have hq : lcl S = (r.drop 1).map (fun lv => -lv.dec) ++ [-lv.dec] := by unfold lcl; rw [hdr]; simp
  have hlen : (lcl S).length ≤ 100 := by
    have := h.gb.tl.wf.lvs
    unfold lcl; rw [List.length_map, List.length_drop]; omega
  refine ⟨hl1, ⟨_, hq⟩, hlen, ?_⟩
  obtain ⟨f, T, hfT⟩ : ∃ f T, S.lvs.drop 1 = f :: T := by
    cases q : S.lvs.drop 1 with
    | nil => rw [hdr] at q; simp at q
    | cons f T => exact ⟨f, T, rfl⟩
  have ha : (lcl S)[0]? = some (-f.dec) := by unfold lcl; rw [hfT]; rfl
  refine ⟨-f.dec, ha, ?_⟩
  have hac : -f.dec ∈ lcl S := List.mem_of_getElem? ha
  have hzc : -lv.dec ∈ lcl S := by rw [hq]; simp
  have hwt : Wt (learnS S (lcl S) (-f.dec) (-lv.dec)) := by
    have old : ∀ {y c}, c ∈ S.sent y → c.toNat < S.cls.length ∧ clOf (learnS S (lcl S) (-f.dec) (-lv.dec)) c = clOf S c := fun {y c} hc => by
      have := clOf_lt (h.gb.wt.se1 y c hc)
      refine ⟨this, ?_⟩
      unfold clOf
      show (S.cls ++ [lcl S]).getD c.toNat [] = _
      rw [List.getD_eq_getElem?_getD, List.getElem?_append_left this, ← List.getD_eq_getElem?_getD]
    have new : clOf (learnS S (lcl S) (-f.dec) (-lv.dec)) (S.cls.length : Int) = lcl S := by
      rw [clOf_nat]
      show (S.cls ++ [lcl S]).getD S.cls.length [] = _
      rw [List.getD_eq_getElem?_getD, List.getElem?_append_right (Nat.le_refl _)]; simp
    refine ⟨fun y c hc => ?_, fun c x y z h1 h2 h3 => ?_, fun i cl e1 e2 => ?_⟩
    · rcases mem_learn.mp hc with hc | ⟨rfl, hy⟩
      · rw [(old hc).2]; exact h.gb.wt.se1 y c hc
      · rw [new]; rcases hy with rfl | rfl
        · exact hac
        · exact hzc
    · rcases mem_learn.mp h1 with g1 | ⟨rfl, g1⟩
      · have hne : c ≠ (S.cls.length : Int) := fun e => by have := (old g1).1; rw [e] at this; simp at this
        exact h.gb.wt.se2 c x y z g1 ((mem_learn.mp h2).resolve_right fun w => hne w.1) ((mem_learn.mp h3).resolve_right fun w => hne w.1)
      · have no : ∀ {y}, (S.cls.length : Int) ∉ S.sent y := fun {y} w => by have := (old w).1; simp at this
        have g2 := ((mem_learn.mp h2).resolve_left no).2
        have g3 := ((mem_learn.mp h3).resolve_left no).2
        rcases g1 with g1 | g1 <;> rcases g2 with g2 | g2 <;> rcases g3 with g3 | g3 <;> rw [g1, g2, g3] <;> simp
    · have e1' : (S.cls ++ [lcl S])[i]? = some cl := e1
      rcases snoc_get e1' with ⟨rfl, rfl⟩ | ⟨hi, e1''⟩
      · refine ⟨-f.dec, -lv.dec, fun e => ?_, mem_learn.mpr (.inr ⟨rfl, .inl rfl⟩), mem_learn.mpr (.inr ⟨rfl, .inr rfl⟩)⟩
        have hd := decs_pair h.gb.tl (List.drop_sublist 1 S.lvs) hdec
        have hl2 : 2 ≤ (S.lvs.drop 1).length := by have : (lcl S).length = (S.lvs.drop 1).length := by unfold lcl; simp
                                                   omega
        rw [hdr] at hd hl2 hfT
        cases hr2 : r.drop 1 with
        | nil => rw [hr2] at hl2; simp at hl2
        | cons g T' =>
          rw [hr2] at hd hfT
          injection hfT with hfT _
          subst hfT
          rw [List.map_append, List.pairwise_append] at hd
          have := hd.2.2 g.dec (by simp) lv.dec (by simp)
          exact this (by omega)
      · obtain ⟨a, b, hab, g1, g2⟩ := h.gb.wt.se3 i cl e1'' e2
        exact ⟨a, b, hab, mem_learn.mpr (.inl g1), mem_learn.mpr (.inl g2)⟩
  have hwf : WF (learnS S (lcl S) (-f.dec) (-lv.dec)) := by
    have w := h.gb.tl.wf
    refine ⟨w.n, w.vars, w.vs, w.vsN, ?_, fun cl hcl => ?_, fun y hy => ⟨?_, fun c hc => ?_⟩, w.lvs, w.lv⟩
    · show (S.cls ++ [lcl S]).length ≤ 1000; simp; omega
    · rcases List.mem_append.mp hcl with z | z
      · exact w.lits cl z
      · rw [List.mem_singleton] at z; subst z; exact hl1
    · have g1 := (w.sent y hy).1
      show (updI (updI S.sent (-f.dec) (addI (S.sent (-f.dec)) S.cls.length)) (-lv.dec) (addI (updI S.sent (-f.dec) (addI (S.sent (-f.dec)) S.cls.length) (-lv.dec)) S.cls.length) y).Nodup
      have key : ∀ y, IsLit S.n y → (updI S.sent (-f.dec) (addI (S.sent (-f.dec)) S.cls.length) y).Nodup := fun y hy => by
        unfold updI
        split
        · exact nodup_addI (w.sent _ (hl1 _ hac)).1 _
        · exact (w.sent y hy).1
      unfold updI
      split
      · exact nodup_addI (key _ (hl1 _ hzc)) _
      · exact key y hy
    · show ∃ i : Nat, c = i ∧ i < (S.cls ++ [lcl S]).length
      rw [List.length_append]
      rcases mem_learn.mp hc with g | ⟨rfl, _⟩
      · obtain ⟨i, e, hi⟩ := (w.sent y hy).2 c g
        exact ⟨i, e, by omega⟩
      · exact ⟨S.cls.length, rfl, by simp⟩
  have hW : ∀ ρ, remX CL (learnS S (lcl S) (-f.dec) (-lv.dec)) ρ ↔ remX CL S ρ := fun ρ => Iff.rfl
  have hpre : ∃ ls, (learnS S (lcl S) (-f.dec) (-lv.dec)).cls = CL ++ ls := by
    obtain ⟨ls, e⟩ := h.gb.pre
    exact ⟨ls ++ [lcl S], by show S.cls ++ [lcl S] = _; rw [e, List.append_assoc]⟩
  refine ⟨h.lvs, ⟨⟨hwf, h.gb.tl.mem, h.gb.tl.disj, h.gb.tl.cons, h.gb.tl.var⟩, hwt, hpre, h.gb.que, h.gb.uns, h.gb.ph, h.gb.sk, h.gb.skz, h.gb.hpl, fun ρ hρ cl hcl => ?_, h.gb.wm, h.gb.h1, h.gb.h2, h.gb.h3⟩, ⟨fun k cl a e1 e2 e3 => ?_, h.bs.sd0, h.bs.sd, h.bs.dec, h.bs.un⟩, h.hp, h.dec, h.flip0⟩
  · rcases List.mem_append.mp hcl with z | z
    · exact h.gb.mc ρ hρ cl z
    · rw [List.mem_singleton] at z; subst z
      obtain ⟨x, hx, hn⟩ := Rg_broken hρ.2
      exact ⟨-x.dec, List.mem_map.mpr ⟨x, hx, rfl⟩, (tr_neg (hlit x hx).1).mpr hn⟩
  · refine h.bs.wl k cl a e1 e2 ((mem_learn.mp e3).resolve_right fun w => ?_)
    obtain ⟨ls, e⟩ := h.gb.pre
    have h1 : k < CL.length := by rcases Nat.lt_or_ge k CL.length with q | q; exact q; rw [List.getElem?_eq_none q] at e1; cases e1
    have h2 := congrArg List.length e
    rw [List.length_append] at h2
    have := w.1
    omega
structure Ini (CL : List (List Int)) (S : SV) (lv : LV) : Prop where
  wf : WF S
  wt : Wt S
  lvs : S.lvs = [lv]
  lits : lv.lits = []
  flip : lv.flip = false
  vs : S.vs = []
  cls : S.cls = CL
  que : ∀ l ∈ S.que, IsLit S.n l ∧ [l] ∈ CL
  unit : ∀ l, [l] ∈ CL → l ∈ S.que
  qz : S.que.length ≤ 5
  isv : ∀ x, S.isV x = false
  uns : S.unsat = false
  ph : 10 ≤ S.ph ∧ S.ph ≤ 20
  sk : ∀ l, IsLit S.n l → l ∈ S.sk
  skz : S.sk.length ≤ 1000
  hpl : ∀ x ∈ S.hp, IsLit S.n x
  hp : ∀ x, IsLit S.n x → x ∈ S.hp
theorem Ini.up (h : Ini CL S lv) (hcz : S.cls.length ≤ 200) : (∃ k, UPsafe k S) ∧ ∀ c S2, UP S c S2 → S2.cls = S.cls ∧ S2.hp = S.hp ∧ S2.n = S.n ∧ S2.learn = S.learn ∧ S2.syms = S.syms ∧ (∃ lv2, S2.lvs = [lv2]) ∧
    ((c = false ∧ S2.unsat = false ∧ Ast CL [] S2) ∨ (c = true ∧ S2.unsat = true ∧ ∀ ρ, ¬ Mdl CL S.n ρ)) := by
  have hrem : ∀ ρ, remA CL S ρ ↔ Mdl CL S.n ρ := fun ρ => by unfold remA; rw [h.lvs]; exact ⟨fun z => z.1, fun z => ⟨z, trivial⟩⟩
  have hvs : ∀ {x}, x ∉ S.vs := fun {x} z => by rw [h.vs] at z; cases z
  have hp0 : PI CL (fun ρ => Mdl CL S.n ρ) [] lv nx S := by
    refine ⟨⟨h.wf, fun x => ?_, ?_, fun x hx => absurd hx hvs, fun x hx => ?_⟩, h.wt, h.lvs, ⟨[], by rw [h.cls]; simp⟩, fun x hx => (h.que x hx).1, fun x _ hv => absurd hv hvs, fun ρ hρ x hx => ?_, fun ρ hρ x hx => absurd hx hvs, fun ρ hρ => by rw [h.cls]; exact hρ.2, fun cl e1 e2 => ?_, fun k cl a _ _ _ i lvi e => ?_, fun k cl a _ _ _ _ e => ?_, fun q1 o q2 _ e => absurd e hvs⟩
    · rw [h.lvs]; exact ⟨fun z => absurd z hvs, fun ⟨a, h1, h2⟩ => by rw [List.mem_singleton] at h1; subst h1; rw [h.lits] at h2; cases h2⟩
    · rw [h.lvs]; simp
    · rw [h.isv]; simp [h.vs]
    · obtain ⟨y, h1, h2⟩ := hρ.2 _ (h.que x hx).2
      rw [List.mem_singleton] at h1; subst h1; exact h2
    · cases cl with
      | nil => simp at e2
      | cons x t =>
        have : t = [] := by simpa using e2
        subst this
        exact ⟨x, by simp, .inl ⟨rfl, h.unit x e1⟩⟩
    · simp at e
    · rw [h.lits] at e; cases e
  have hu : upM S < 5000 := by
    unfold upM
    have h1 : S.vars.countP (!·) ≤ S.vars.length := List.countP_le_length
    have h2 := h.wf.vars
    have h3 := h.wf.n
    have := h.qz
    omega
  refine ⟨⟨upM S, hp0.safe hcz (by have := h.ph; omega) (Nat.le_refl _) hu⟩, fun c S2 hx => ?_⟩
  obtain ⟨lv2, S3, p2, u2, s2, c1, c2⟩ := hp0.up hx hcz
  cases c with
  | false =>
    obtain ⟨rfl, hq⟩ := c1 rfl
    refine ⟨s2.cls, s2.hp, s2.n, s2.learn, s2.syms, ⟨lv2, p2.lvs⟩, .inl ⟨rfl, s2.unsat.trans h.uns, ?_⟩⟩
    have hn := s2.n
    have hrem2 : ∀ ρ, remA CL S2 ρ ↔ Mdl CL S.n ρ := fun ρ => by unfold remA; rw [p2.lvs, hn]; exact ⟨fun z => z.1, fun z => ⟨z, trivial⟩⟩
    refine ⟨⟨p2.tl, p2.wt, p2.pre, hq, s2.unsat.trans h.uns, by rw [s2.ph]; exact h.ph, fun l hl => by rw [s2.sk]; exact h.sk l (hn ▸ hl), by rw [s2.sk]; exact h.skz, fun x hx => by rw [hn]; exact h.hpl x (s2.hp ▸ hx), fun ρ hρ => by rw [s2.cls, h.cls]; exact ((hrem2 ρ).mp hρ).2, fun ρ hρ => hρ.1, fun ρ hρ hw => absurd ((hrem2 ρ).mpr (hn ▸ hρ)) hw, fun ρ hρ => (nomatch hρ), List.nodup_nil⟩, ?_, by rw [p2.lvs]; simp, fun x hx _ => by rw [s2.hp]; exact h.hp x (hn ▸ hx)⟩
    rw [p2.lvs]
    refine p2.bs (r := []) hq (fun ρ hρ _ => (hrem2 ρ).mp hρ) ⟨p2.wlow, fun lv0 e => by simp at e, trivial, fun x hx => by simp at hx, fun cl _ _ lv0 e => by simp at e⟩ (fun _ => u2.flip.trans h.flip) fun z => absurd rfl z
  | true =>
    obtain ⟨rfl, hM⟩ := c2 rfl
    exact ⟨s2.cls, s2.hp, s2.n, s2.learn, s2.syms, ⟨lv2, p2.lvs⟩, .inr ⟨rfl, rfl, hM⟩⟩
def mu : Nat → List LV → Nat
  | n, [] => 3 ^ n
  | 0, _ :: _ => 0
  | n + 1, lv :: L => (if lv.flip then 0 else 3 ^ n) + mu n L
theorem mu_le : ∀ (n : Nat) (L : List LV), mu n L ≤ 3 ^ n
  | n, [] => by unfold mu; exact Nat.le_refl _
  | 0, _ :: _ => by unfold mu; omega
  | n + 1, lv :: L => by
    have := mu_le n L
    unfold mu
    rw [Nat.pow_succ]
    split <;> omega
theorem pow3 (n : Nat) : 0 < 3 ^ n := Nat.pow_pos (by omega)
theorem mu_pos : ∀ (n : Nat) (L : List LV), L.length ≤ n → 0 < mu n L
  | n, [], _ => by unfold mu; exact pow3 n
  | 0, _ :: _, h => by simp at h
  | n + 1, lv :: L, h => by
    have := mu_pos n L (by simpa using h)
    unfold mu; omega
theorem mu_decide : ∀ (n : Nat) (L : List LV) (lv : LV), L.length < n → lv.flip = false → mu n (L ++ [lv]) < mu n L
  | 0, _, _, h, _ => by omega
  | n + 1, [], lv, _, hf => by
    simp only [List.nil_append, mu, hf, Bool.false_eq_true, if_false]
    have := pow3 n
    rw [Nat.pow_succ]; omega
  | n + 1, a :: L, lv, h, hf => by
    have := mu_decide n L lv (by simpa using h) hf
    rw [List.cons_append]
    simp only [mu]; omega
theorem mu_turn : ∀ (n : Nat) (L : List LV) (lv lv' : LV) (rest : List LV), (L ++ lv :: rest).length ≤ n → lv.flip = false → lv'.flip = true → mu n (L ++ [lv']) < mu n (L ++ lv :: rest)
  | 0, L, _, _, _, h, _, _ => by simp at h
  | n + 1, [], lv, lv', rest, h, hf, hf' => by
    simp only [List.nil_append, mu, hf, hf', Bool.false_eq_true, if_false, if_true]
    have := mu_pos n rest (by simpa using h)
    omega
  | n + 1, a :: L, lv, lv', rest, h, hf, hf' => by
    have := mu_turn n L lv lv' rest (by simpa using h) hf hf'
    rw [List.cons_append, List.cons_append]
    simp only [mu]; omega
theorem mu_congr {n : Nat} {L : List LV} {lv lv' : LV} (h : lv'.flip = lv.flip) : mu n (L ++ [lv']) = mu n (L ++ [lv]) := by
  induction L generalizing n with
  | nil => cases n <;> simp [mu, h]
  | cons a L ih => cases n with
    | zero => rfl
    | succ n => rw [List.cons_append, List.cons_append]; simp only [mu]; rw [ih]
end
end Dp
end
section
open PySem PySem.W PySem.Calls PyProof.Rows
namespace Dp
def lvInit : Stmt := defIn (clsBody "Level") "__init__"
section
variable {prog : Program} {w : World} {K : Frag} {B : Heap} {A : Around} {E : Value → Shared → Prop} {s s' s₁ s₂ : Shared} {L a l x C : Addr} {m : Str → Option Value} {adr : Role → Addr} {D D₁ D₂ P : Addr → Prop} {S S' : SV} {cn : Str} {cs : Scope} {cd : Value} {h h' : Heap} {env : Env}
theorem tc_units (g : Args) : (Code.builtin "type.__call__" g).cUnits ≤ 3 := by
  have : (Code.builtin "type.__call__" g).cUnits = (Code.builtin "type.__call__" ⟨[], []⟩).cUnits := rfl
  rw [this]; decide +kernel
theorem Rm.tc {d : Nat} {C : Addr} {vals : List Value} {kw : List (Str × Value)} (x : Rm A (d + 1)) : Rm (A.under (.builtin "type.__call__" ⟨.ref C :: vals, kw⟩)) d :=
  ⟨x.hh, by have h1 := x.dep; have h2 : (A.under (.builtin "type.__call__" ⟨.ref C :: vals, kw⟩)).depth = A.depth + 1 := rfl
            rw [h2]; omega, by have h1 := x.un; have h2 := tc_units ⟨.ref C :: vals, kw⟩; show A.units + (Code.builtin "type.__call__" _).cUnits + 100 * d < _; omega⟩
def lvBinds (x : Addr) (lit : Int) (t : Tok) (fl : Bool) : List (Str × Value) := [("self", .ref x), ("decision", .int lit t), ("flipped", .bool fl)]
theorem inst_set {at_ : List Str} {name : Str} {v : Value} {dx : Addr} {es : List DictEntry} {k : Nat} {f : Str → Option Value} {Q : Unit → Shared → Prop} (X : K.In s.heap) (c : ClsAt K C at_) (I : InstAt s.heap x (instObj C dx) C (some (dictOf es k))) (hn : name ∈ at_) (hd : Dic es f) (hz : es.length ≤ 400)
    (hq : ∀ h' es' k' tk, Heap.SameBut dx s.heap h' → h'.get? dx = some (dictOf es' k') → es'.length ≤ es.length + 1 → Dic es' (updS f name v) → Q () { s with heap := h', toks := tk }) :
    wpAny (model prog w) A (setAttr (.ref x) name v) Q E s :=
  setAttr_raw X c I hn (by rw [hd]; rfl) (by omega) fun h' hsh tk sb g => hq h' _ _ _ sb g (by rw [putL_length]; unfold putN; split <;> omega) (hd.upd _ _ _ _)
structure NewLv (w : World) (s : Shared) (ob dc st : Addr) (lit : Int) (fl : Bool) (s' : Shared) : Prop where
  e : Eff No s s'
  n1 : s.heap.get? ob = none
  n2 : s.heap.get? dc = none
  n3 : s.heap.get? st = none
  d1 : ob ≠ dc
  d2 : ob ≠ st
  d3 : dc ≠ st
  o1 : s'.heap.get? ob = some (instObj 229 dc)
  o2 : ∃ es k f t, s'.heap.get? dc = some (dictOf es k) ∧ Dic es f ∧ f "decision" = some (.int lit t) ∧ f "flipped" = some (.bool fl) ∧ f "var_settings" = some (.ref st)
  o3 : ∃ o, s'.heap.get? st = some o ∧ IntSet w o []
  o4 : ∃ es k, s'.heap.get? dc = some (dictOf es k) ∧ es.length ≤ 10
theorem level_body {pm : Value} {lit : Int} {t : Tok} {fl : Bool} {args : Args} {x dx : Addr} {Rr : Result → Shared → Prop} (G : Bas w K B) (kf : KF K) (o : On B s.heap) (rm : Rm A 1)
    (hb : BindsTo s (fdOf lvInit "__init__" "Level.__init__" (.ref 219) pm 225) args (lvBinds x lit t fl)) (hat : K.lookup 226 = some ⟨.type "function", none, .func (fdOf lvInit "__init__" "Level.__init__" (.ref 219) pm 225), #[]⟩)
    (ho : s.heap.get? x = some (instObj 229 dx)) (hd : s.heap.get? dx = some (dictOf [] 0)) (hB1 : B.get? dx = none) (hxd : x ≠ dx)
    (hq : ∀ s' st es k f t, Eff (fun b => b = dx) s s' → s.heap.get? st = none → s'.heap.get? dx = some (dictOf es k) → Dic es f → f "decision" = some (.int lit t) → f "flipped" = some (.bool fl) → f "var_settings" = some (.ref st) → (∃ o, s'.heap.get? st = some o ∧ IntSet w o []) → es.length ≤ 10 → Rr (.ok (.ret .none)) s') :
    codeAny (model prog w) A (.call (.ref 226) args) Rr s := by
  refine call_fn (st := lvInit) G o hat kf.fLI.code rm.room hb (locs rfl) (fun h₁ L F hL hk => ?_)
  have hxL : dx ≠ L := fun z => by rw [z, hL] at hd; cases hd
  have hx1 := hk _ _ ho
  have hd1 := hk _ _ hd
  refine wpAny_execs_cons (plainObj_wpAny_Assign_Attribute (ld F rfl (ld F rfl (inst_set (C := 229) (G.in (frOn F)) kf.Lv ⟨hx1, rfl, rfl, hd1⟩ (by decide) (f := fun _ => none) (fun y => rfl) (by simp) fun h₂ es₂ k₂ t₂ sb₂ ho₂ hz₂ hd₂ => ?_))))
  generalize hs2 : (⟨h₂, s.gens, s.drawn, t₂, s.os⟩ : Shared) = s₂
  have e2 : Eff (fun b => b = dx) s s₂ := by subst hs2; exact ⟨fun b o n q => (sb₂.2 b n).trans (hk b o q), rfl, rfl⟩
  have F₂ : Fr B L s₂.heap (fun y => (lvBinds x lit t fl).reverse.lookup y) := by subst hs2; exact Fr_eff (s' := ⟨h₂, s.gens, s.drawn, t₂, s.os⟩) F (sb_eff (s := ⟨h₁, s.gens, s.drawn, s.toks, s.os⟩) (P := fun b => b = dx) (tk := t₂) sb₂ rfl) (fun z => hxL z.symm) (fun b o q z => by rw [z, hB1] at q; cases q)
  have hx2 : s₂.heap.get? x = some (instObj 229 dx) := by subst hs2; exact (sb₂.2 x hxd).trans hx1
  have hd2 : s₂.heap.get? dx = some (dictOf es₂ k₂) := by subst hs2; exact ho₂
  refine wpAny_execs_cons (plainObj_wpAny_Assign_Attribute (Call_ (nmB G kf F₂ (callWith_type0 (call_set0 (ld (s := { s₂ with heap := s₂.heap.push (setNew w) }) (Fr_no F₂ ⟨fun b o _ q => Heap.get?_push_of_some _ q, rfl, rfl⟩) rfl ?_))))))
  have hst : s₂.heap.get? s₂.heap.objs.size = none := new_none
  generalize hs3 : ({ s₂ with heap := s₂.heap.push (setNew w) } : Shared) = s₃
  have e23 : Eff No s₂ s₃ := by subst hs3; exact ⟨fun b o _ q => Heap.get?_push_of_some _ q, rfl, rfl⟩
  have g3 : s₃.heap.get? s₂.heap.objs.size = some (setNew w) := by subst hs3; exact Heap.get?_push_size _ rfl
  generalize s₂.heap.objs.size = st at hst g3 ⊢
  have ne : st ≠ dx := fun z => by rw [z, hd2] at hst; cases hst
  have F₃ := Fr_no F₂ e23
  have hx3 := e23.all hx2
  have hd3 := e23.all hd2
  refine inst_set (C := 229) (G.in (frOn F₃)) kf.Lv ⟨hx3, rfl, rfl, hd3⟩ (by decide) hd₂ (by simp at hz₂; omega) fun h₄ es₄ k₄ t₄ sb₄ ho₄ hz₄ hd₄ => ?_
  generalize hs4 : (⟨h₄, s₃.gens, s₃.drawn, t₄, s₃.os⟩ : Shared) = s₄
  have e34 : Eff (fun b => b = dx) s₃ s₄ := by subst hs4; exact sb_eff (tk := t₄) sb₄ rfl
  have F₄ : Fr B L s₄.heap (fun y => (lvBinds x lit t fl).reverse.lookup y) := Fr_eff F₃ e34 (fun z => hxL z.symm) (fun b o q z => by rw [z, hB1] at q; cases q)
  have hx4 : s₄.heap.get? x = some (instObj 229 dx) := e34.keep _ _ hxd hx3
  have hd4 : s₄.heap.get? dx = some (dictOf es₄ k₄) := by subst hs4; exact ho₄
  have g4 := e34.keep _ _ ne g3
  refine wpAny_execs_cons (plainObj_wpAny_Assign_Attribute (ld F₄ rfl (ld F₄ rfl (inst_set (C := 229) (G.in (frOn F₄)) kf.Lv ⟨hx4, rfl, rfl, hd4⟩ (by decide) hd₄ (by simp at hz₂; omega) fun h₅ es₅ k₅ t₅ sb₅ ho₅ hz₅ hd₅ => ?_))))
  refine wpAny_execs_nil (hq _ st es₅ k₅ _ t ?_ ?_ ho₅ hd₅ ?_ ?_ ?_ ⟨_, (sb₅.2 _ ne).trans g4, setNew_is⟩ (by simp at hz₂; omega))
  · have a1 : Eff (fun b => b = dx) s s₄ := (e2.same e23.no).same e34
    exact a1.same (sb_eff (tk := t₅) sb₅ rfl)
  · exact Eff_fresh e2 hst ne
  · rw [updS_ne (by decide), updS_ne (by decide), updS_self]
  · rw [updS_self]
  · rw [updS_ne (by decide), updS_self]
theorem call_level {lit : Int} {t : Tok} {kw : List (Str × Value)} {fl : Bool} {Rr : Result → Shared → Prop} (G : Bas w K B) (kf : KF K) (o : On B s.heap) (rm : Rm A 2) (hkw : (kw = [] ∧ fl = false) ∨ kw = [(Str.ofString "flipped", Value.bool fl)])
    (hq : ∀ s' ob dc st, NewLv w s ob dc st lit fl s' → Rr (.ok (.ret (.ref ob))) s') :
    codeAny (model prog w) A (.call (.ref 229) ⟨[.int lit t], kw⟩) Rr s := by
  obtain ⟨pm, hat⟩ := kf.fLI.at_
  have X := G.in o
  obtain ⟨hh, g, d, tt, os⟩ := s
  refine make_core (makes_of X kf.Lv.makes) (looks_findIn X kf.initL) (fun self => bind_fn X self (beq_iff_eq.mp kf.fLI.fn)) (.inl rfl) ?_
  have k : ∀ b o, hh.get? b = some o → ((hh.push emptyDict).push (instObj 229 hh.objs.size)).get? b = some o := fun b o e => Heap.get?_push_of_some _ (Heap.get?_push_of_some _ e)
  have hx : ((hh.push emptyDict).push (instObj 229 hh.objs.size)).get? (hh.objs.size + 1) = some (instObj 229 hh.objs.size) := by
    have := Heap.get?_push_size (hh.push emptyDict) (o := instObj 229 hh.objs.size) rfl
    rwa [Heap.size_push] at this
  have hdx : ((hh.push emptyDict).push (instObj 229 hh.objs.size)).get? hh.objs.size = some (dictOf [] 0) := Heap.get?_push_of_some _ (Heap.get?_push_size _ rfl)
  have hn : hh.get? hh.objs.size = none := new_none
  have hn1 : hh.get? (hh.objs.size + 1) = none := by
    cases q : hh.get? (hh.objs.size + 1) with
    | none => rfl
    | some ob => exact absurd (Heap.lt_size q) (Nat.not_lt.mpr (Nat.le_succ _))
  have o2 : On B ((hh.push emptyDict).push (instObj 229 hh.objs.size)) := ⟨fun b ob q => k b ob (o.keep b ob q), by rw [Heap.size_push, Heap.size_push]; have := o.size; exact Nat.le_succ_of_le (Nat.le_succ_of_le this)⟩
  refine level_body (s := ⟨(hh.push emptyDict).push (instObj 229 hh.objs.size), g, d, tt, os⟩) (dx := hh.objs.size) (lit := lit) (t := t) (fl := fl) (pm := pm) G kf o2 rm.tc ?_ hat hx hdx (o.none hn) (Nat.succ_ne_self _) fun s' st es k' f t' e1 e2 e3 e4 e5 e6 e7 e8 e9 => ?_
  · rcases hkw with ⟨rfl, rfl⟩ | rfl
    · exact BindsTo.of_defaults rfl ((G.in o2) _ _ kf.dLI) rfl rfl rfl
    · exact BindsTo.of_defaults rfl ((G.in o2) _ _ kf.dLI) rfl rfl rfl
  · refine ⟨rfl, ?_⟩
    have e0 : Eff No ⟨hh, g, d, tt, os⟩ s' := (⟨fun b o _ q => k b o q, rfl, rfl⟩ : Eff No ⟨hh, g, d, tt, os⟩ ⟨(hh.push emptyDict).push (instObj 229 hh.objs.size), g, d, tt, os⟩).new e1 fun b z => by rw [z]; exact hn
    have hst : hh.get? st = none := by
      cases q : hh.get? st with
      | none => rfl
      | some ob => have := k _ _ q; rw [show ((hh.push emptyDict).push (instObj 229 hh.objs.size)).get? st = none from e2] at this; cases this
    refine hq s' _ _ st ⟨e0, hn1, hn, hst, Nat.succ_ne_self _, fun z => ?_, fun z => ?_, e1.keep _ _ (Nat.succ_ne_self _) hx, ⟨es, k', f, t', e3, e4, e5, e6, e7⟩, e8, es, k', e3, e9⟩
    · rw [← z] at e2; rw [show ((hh.push emptyDict).push (instObj 229 hh.objs.size)).get? (hh.objs.size + 1) = none from e2] at hx; cases hx
    · rw [← z] at e2; rw [show ((hh.push emptyDict).push (instObj 229 hh.objs.size)).get? hh.objs.size = none from e2] at hdx; cases hdx
end
end Dp
end
section
open PySem PySem.W PySem.Calls PyProof.Rows
namespace Dp
def newLs (adr : Role → Addr) (i : Nat) (b : Addr) : Role → Addr := fun r => if rolEq r (.lset i) = true then b else adr r
theorem newLs_ne {adr : Role → Addr} {r : Role} {i : Nat} {b : Addr} (h : r ≠ .lset i) : newLs adr i b r = adr r := if_neg fun z => h (rolEq_iff.mp z)
section
variable {prog : Program} {w : World} {K : Frag} {B : Heap} {A : Around} {E : Value → Shared → Prop} {s s' s₁ s₂ : Shared} {L a l x C : Addr} {m : Str → Option Value} {adr : Role → Addr} {D D₁ D₂ P : Addr → Prop} {S S' : SV} {cn : Str} {cs : Scope} {cd : Value} {h h' : Heap} {env : Env}
theorem Att.ls {f : Str → Option Value} {i : Nat} {b : Addr} {ls : List LV} (a : Att adr S f) : Att (newLs adr i b) { S with lvs := ls } f :=
  ⟨a.vset, a.unsat, a.que, a.syms, a.sdct, a.odct, a.vars, a.cls, a.hp, a.sdic, a.learn, a.lvs, a.n1, a.n2, a.rest⟩
theorem dct_ls {own : Addr → Prop} {o : Obj} {i : Nat} {b : Addr} {ls : List LV} (y : RoleOk prog w D own adr h S .dct o) : RoleOk prog w D own (newLs adr i b) h { S with lvs := ls } .dct o := by
  obtain ⟨es, k, f, e, hz, hd, a⟩ := y
  exact ⟨es, k, f, e, hz, hd, a.ls⟩
theorem Rep.addLv {ob dc st : Addr} {lit : Int} {fl : Bool} {k : Nat} {es : List DictEntry} {k' : Nat} {f : Str → Option Value} {t : Tok} {oset : Obj} (R : Rep prog w B D adr S h) (hp : 8 ≤ S.ph) (sb : Heap.SameBut (adr .lvs) h h')
    (ho : h'.get? (adr .lvs) = some (listO ((S.lvs ++ [(⟨lit, fl, [], ob, dc⟩ : LV)]).map fun lv => Value.ref lv.ob).toArray k))
    (n1 : ¬ D ob) (n2 : ¬ D dc) (n3 : ¬ D st) (b1 : B.get? ob = none) (b2 : B.get? dc = none) (b3 : B.get? st = none) (d2 : ob ≠ st) (d3 : dc ≠ st)
    (o1 : h.get? ob = some (instObj 229 dc)) (o2 : h.get? dc = some (dictOf es k')) (hd : Dic es f) (f1 : f "decision" = some (.int lit t)) (f2 : f "flipped" = some (.bool fl)) (f3 : f "var_settings" = some (.ref st)) (o3 : h.get? st = some oset) (x3 : IntSet w oset []) :
    Rep prog w B (fun x => D x ∨ x = ob ∨ x = dc ∨ x = st) (newLs adr S.lvs.length st) { S with lvs := S.lvs ++ [(⟨lit, fl, [], ob, dc⟩ : LV)] } h' := by
  have hlv : ∀ {r}, SV.live { S with lvs := S.lvs ++ [(⟨lit, fl, [], ob, dc⟩ : LV)] } r → r ≠ .lset S.lvs.length → S.live r := by
    intro r hr hn
    cases r <;> first | exact hr | skip
    rename_i i
    obtain ⟨h1, h2⟩ := hr
    have h2' : i < S.lvs.length + 1 := by simpa using h2
    exact ⟨h1, Nat.lt_of_le_of_ne (Nat.le_of_lt_succ h2') fun z => hn (by rw [z])⟩
  have hown : ∀ x, ownOf (newLs adr S.lvs.length st) { S with lvs := S.lvs ++ [(⟨lit, fl, [], ob, dc⟩ : LV)] } x → ownOf adr S x ∨ x = st := by
    rintro x ⟨q, h1, h2⟩
    by_cases e : q = .lset S.lvs.length
    · subst e; exact .inr (by rw [← h2]; exact if_pos (rolEq_iff.mpr rfl))
    · rw [newLs_ne e] at h2; exact .inl ⟨q, hlv h1 e, h2⟩
  have hfz : ∀ a o, Fz D (ownOf adr S) h a o → Fz (fun x => D x ∨ x = ob ∨ x = dc ∨ x = st) (ownOf (newLs adr S.lvs.length st) { S with lvs := S.lvs ++ [(⟨lit, fl, [], ob, dc⟩ : LV)] }) h' a o := fun a o z =>
    ⟨.inl z.1, fun y => (hown a y).elim z.2.1 fun e => n3 (e ▸ z.1), (sb.2 a fun y => z.2.1 ⟨.lvs, hp, y.symm⟩).trans z.2.2⟩
  have hl : D (adr .lvs) := R.sub .lvs hp
  have ne : ∀ {b}, ¬ D b → b ≠ adr .lvs := fun n z => n (z ▸ hl)
  have hst : newLs adr S.lvs.length st (.lset S.lvs.length) = st := if_pos (rolEq_iff.mpr rfl)
  have ha : ∀ {q}, S.live q → adr q ≠ st := fun hq z => n3 (z ▸ R.sub _ hq)
  refine ⟨fun q hq => ?_, fun q q' h1 h2 e => ?_, fun q hq => ?_, fun x hx => ?_, fun x hx => ?_, R.syms⟩
  · by_cases e : q = .lset S.lvs.length
    · subst e
      rw [hst]
      refine ⟨oset, (sb.2 st (ne n3)).trans o3, fun lv e' => ?_⟩
      have : (S.lvs ++ [(⟨lit, fl, [], ob, dc⟩ : LV)])[S.lvs.length]? = some lv := e'
      simp at this
      subst this; exact x3
    rw [newLs_ne e]
    have hq' := hlv hq e
    obtain ⟨o, h1, h2⟩ := R.ok q hq'
    by_cases e2 : q = .lvs
    · subst e2
      refine ⟨_, ho, k, rfl, fun i lv e' => ?_⟩
      obtain ⟨k0, _, g⟩ := h2
      rcases snoc_get (r := S.lvs) (x := (⟨lit, fl, [], ob, dc⟩ : LV)) e' with ⟨rfl, rfl⟩ | ⟨hi, e''⟩
      · refine ⟨⟨.inr (.inl rfl), fun y => ?_, (sb.2 ob (ne n1)).trans o1⟩, es, k', f, t, ⟨.inr (.inr (.inl rfl)), fun y => ?_, (sb.2 dc (ne n2)).trans o2⟩, hd, f1, f2, by rw [hst]; exact f3⟩
        · exact (hown _ y).elim (fun z => n1 (R.dom z)) d2
        · exact (hown _ y).elim (fun z => n2 (R.dom z)) d3
      · obtain ⟨z, es', m', g', t', z', h3, h4, h5, h6⟩ := g i lv e''
        refine ⟨hfz _ _ z, es', m', g', t', hfz _ _ z', h3, h4, h5, ?_⟩
        rw [newLs_ne fun w => by injection w with w; omega]; exact h6
    · refine ⟨o, (sb.2 _ fun z => e2 (R.inj q .lvs hq' hp z)).trans h1, ?_⟩
      have h3 := h2.fz hfz
      cases q <;> first | exact h3 | exact dct_ls h3 | exact absurd rfl e2 | skip
      rename_i i
      intro lv e'
      have hi : i < S.lvs.length := hq'.2
      refine h3 lv ?_
      have e'' : (S.lvs ++ [(⟨lit, fl, [], ob, dc⟩ : LV)])[i]? = some lv := e'
      rwa [List.getElem?_append_left hi] at e''
  · by_cases e1 : q = .lset S.lvs.length
    · subst e1
      by_cases e2 : q' = .lset S.lvs.length
      · exact e2.symm
      · rw [hst, newLs_ne e2] at e; exact absurd e.symm (ha (hlv h2 e2))
    · rw [newLs_ne e1] at e
      by_cases e2 : q' = .lset S.lvs.length
      · subst e2; rw [hst] at e; exact absurd e (ha (hlv h1 e1))
      · rw [newLs_ne e2] at e; exact R.inj q q' (hlv h1 e1) (hlv h2 e2) e
  · by_cases e1 : q = .lset S.lvs.length
    · subst e1; rw [hst]; exact .inr (.inr (.inr rfl))
    · rw [newLs_ne e1]; exact .inl (R.sub q (hlv hq e1))
  · rcases hx with hx | rfl | rfl | rfl
    · exact R.off x hx
    · exact b1
    · exact b2
    · exact b3
  · by_cases e : x = adr .lvs
    · subst e; exact ⟨_, ho⟩
    · rcases hx with hx | rfl | rfl | rfl
      · obtain ⟨o, q⟩ := R.alive x hx; exact ⟨o, (sb.2 x e).trans q⟩
      · exact ⟨_, (sb.2 _ e).trans o1⟩
      · exact ⟨_, (sb.2 _ e).trans o2⟩
      · exact ⟨_, (sb.2 _ e).trans o3⟩
theorem Call_kw {fn : PySem.Expr} {args : List PySem.Expr} {kws : List Keyword} {pos : Pos} {Q : Value → Shared → Prop}
    (h : wpAny (model prog w) A (eval fn env) (fun f s₁ => wpAny (model prog w) A (callWith pos f [] (backTo pos (starEach args env)) (backToKw pos (keywordEach kws env))) Q E s₁) E s)
    (he : eval (.Call fn args kws pos) env = (do callWith pos (← eval fn env) [] (backTo pos (starEach args env)) (backToKw pos (keywordEach kws env))) := by rfl) :
    wpAny (model prog w) A (eval (.Call fn args kws pos) env) Q E s := by
  rw [he]; exact wpAny_bind h
theorem eval_level {nv f : Str} {lit : Int} {t : Tok} {pv fp pos : Pos} {Q : Value → Shared → Prop} (G : Bas w K B) (kf : KF K) (F : Fr B L s.heap m) (rm : Rm A 2) (hv : m nv = some (.int lit t))
    (hq : ∀ s' ob dc st, NewLv w s ob dc st lit false s' → Q (.ref ob) s')
    (hf : f = "Level" := by rfl) (hk : cs.kind = .function := by rfl) (hkf : (envOf cn cs L l cd).kindOf f = some .globalImplicit := by rfl) (hlv : (envOf cn cs L l cd).kindOf nv = some .local := by rfl) (hdv : (nv == ("__debug__" : Str)) = false := by decide) :
    wpAny (model prog w) A (eval (.Call (.Name f fp) [.Name nv pv] [] pos) (envOf cn cs L l cd)) Q E s := by
  subst hf
  refine Call_ (nmK G F kf.gLev (callWith_of (P := K.In) rfl (keeps_K kf.keepL) (evalArgs_plain (args_cons (ld F hv (args_nil ⟨G.in (frOn F), wpAny_call ?_⟩) hk hlv hdv)))) hk hkf)
  exact call_level G kf (frOn F) rm (.inl ⟨rfl, rfl⟩) hq
theorem eval_levelF {nv f : Str} {lit : Int} {t : Tok} {pv fp kp tp pos : Pos} {kk : Nat} {Q : Value → Shared → Prop} (G : Bas w K B) (kf : KF K) (F : Fr B L s.heap m) (rm : Rm A 2) (hv : m nv = some (.int lit t))
    (hq : ∀ s' ob dc st, NewLv w s ob dc st lit true s' → Q (.ref ob) s')
    (hf : f = "Level" := by rfl) (hk : cs.kind = .function := by rfl) (hkf : (envOf cn cs L l cd).kindOf f = some .globalImplicit := by rfl) (hlv : (envOf cn cs L l cd).kindOf nv = some .local := by rfl) (hdv : (nv == ("__debug__" : Str)) = false := by decide) :
    wpAny (model prog w) A (eval (.Call (.Name f fp) [.Name nv pv] [⟨some "flipped", .Constant (.bool true) kk tp, kp⟩] pos) (envOf cn cs L l cd)) Q E s := by
  subst hf
  refine Call_kw (nmK G F kf.gLev ?_ hk hkf)
  refine callWith_of (P := K.In) rfl (keeps_K kf.keepL) (evalArgs_kw rfl ?_)
  refine args_cons (ld F hv (args_nil ?_) hk hlv hdv)
  show wpAny _ _ (evalAll [(do let v ← eval (Expr.Constant (Const.bool true) kk tp) (envOf cn cs L l cd); standAt pos; pure v)]) _ _ _
  refine wpAny_evalAll_cons (wpAny_bind (wpAny_Constant_bool (wpAny_bind (wpAny_standAt (wpAny_pure (wpAny_pure ⟨G.in (frOn F), wpAny_call ?_⟩))))))
  exact call_level G kf (frOn F) rm (.inr rfl) hq
end
end Dp
end
section
open PySem PySem.W PySem.Calls PyProof.Rows
namespace Dp
section
variable {M : Model} {prog : Program} {w : World} {K : Frag} {B : Heap} {A : Around} {E : Value → Shared → Prop} {s s' s₁ s₂ : Shared} {L a l x C : Addr} {m : Str → Option Value} {adr : Role → Addr} {D D₁ D₂ P : Addr → Prop} {S S' : SV} {cn : Str} {cs : Scope} {cd : Value} {h h' : Heap} {env : Env}
theorem Nm.glo {x : Str} {v : Value} (G : Bas w K B) (o : On B h) (e : nsIn K mainGlobals x = some (some v)) (hg : env.globals = mainGlobals := by rfl) (hk : env.scope.kind = .function := by rfl) (hx : env.kindOf x = some .globalImplicit := by rfl) (hd : (x == ("__debug__" : Str)) = false := by decide) : Nm env h x v :=
  ⟨hd, fun {M A E s Q} eh q => by
    obtain ⟨_, _, _, _, T⟩ := G.top
    unfold loadName
    simp only [Env.blockKind, hk, hx, ScopeKind.isAnnotationScope, Bool.false_and, Bool.false_eq_true, if_false]
    exact loadGlobal_global (env := env) (by rw [hg, eh]; exact T.g.keeps o.keep) (mg_of G.K T.g e) q⟩
theorem Nm.bui {x : Str} {v : Value} (G : Bas w K B) (kf : KF K) (o : On B h) (hin : x ∈ (["len", "abs", "range", "list", "set", "sorted", "str", "enumerate"] : List Str) := by decide) (hv : bootBuiltins x = some v := by rfl) (hn : x ≠ "__name__" := by decide) (hg : env.globals = mainGlobals := by rfl) (hb : env.builtins = builtinsNs := by rfl) (hk : env.scope.kind = .function := by rfl) (hx : env.kindOf x = some .globalImplicit := by rfl) (hd : (x == ("__debug__" : Str)) = false := by decide) : Nm env h x v :=
  ⟨hd, fun {M A E s Q} eh q => by
    obtain ⟨_, _, _, _, T⟩ := G.top
    unfold loadName
    simp only [Env.blockKind, hk, hx, ScopeKind.isAnnotationScope, Bool.false_and, Bool.false_eq_true, if_false]
    exact loadGlobal_builtin (env := env) (by rw [hg, eh]; exact T.g.keeps o.keep) (mg_none_of G.K T.g (kf.gNone x hin)) (by rw [hb, eh]; exact T.b.keeps o.keep) ((T.builtins x hn).trans hv) q⟩
theorem Nm.keeps {x : Str} {v : Value} {h' : Heap} (n : Nm env h x v) (e : h' = h) : Nm env h' x v := e ▸ n
theorem attrN {at_ : List Str} {n name : Str} {v : Value} {p pos : Pos} {Q : Value → Shared → Prop} (G : Bas w K B) (F : Fr B L s.heap m) (c : ClsAt K C at_) (N : Nm env s.heap n (.ref x)) (H : HasAttr s.heap x C name v) (hn : name ∈ at_) (hv : handedIn v = true)
    (hq : Q v { s with toks := s.toks + 1 })
    (he : eval (.Attribute (.Name n p) name pos) env = (do
      let o ← eval (.Name n p) env
      standAt pos.atName
      let r ← holding [o] (getAttr o name true)
      letTemporaryGo (.Name n p) o r
      pure r) := by with_unfolding_all rfl) :
    wpAny (model prog w) A (eval (.Attribute (.Name n p) name pos) env) Q E s :=
  Attribute_any_ (N.name (getAttr_has G F c H hn hv hq)) he
theorem self_callN0 {n name : Str} {f cdA : Addr} {p apos pos : Pos} {Q : Value → Shared → Prop} (G : Bas w K B) (F : Fr B L s.heap m) (c : ClsAt K 207 sAttrs) (M : MethAt K name f cdA) (R : Rep prog w B D adr S s.heap)
    (N : Nm env s.heap n (.ref (adr .slf))) (hnot : name ∉ sAttrs)
    (hq : codeAny (model prog w) A (.call (.ref f) ⟨.ref (adr .slf) :: [], []⟩)
      (fun r s' => match r with | .ok (.ret v) => Q v s' | .ok _ => False | .error e => E e s') s)
    {pl : Sem Bool} (hm : eval (.Call (.Attribute (.Name n p) name apos) ([]) [] pos) env = (do
      let ov ← eval (.Name n p) env
      standAt apos.atName
      let (f, first) ← holding [ov] (getMethod ov name pl)
      callWith pos f first (backTo pos (starEach ([]) env)) []) := by rfl) :
    wpAny (model prog w) A (eval (.Call (.Attribute (.Name n p) name apos) ([]) [] pos) env) Q E s := by
  obtain ⟨dx, es, k, I, hg⟩ := R.h_not hnot
  refine MethodCall_ (N.name ?_) hm
  refine method_inst F G.K I (by have := c.plain; exact this) M.find M.fn.fn hg ?_
  refine callWith_of (P := K.In) rfl (keeps_K M.fn.keep) (PyProof.Rows.evalArgs_none ⟨G.in (frOn F), wpAny_call ?_⟩)
  exact hq
theorem self_callN {n name : Str} {f cdA : Addr} {p apos pos : Pos} {e : PySem.Expr} {rest : List PySem.Expr} {Q : Value → Shared → Prop} (G : Bas w K B) (F : Fr B L s.heap m) (c : ClsAt K 207 sAttrs) (M : MethAt K name f cdA) (R : Rep prog w B D adr S s.heap)
    (N : Nm env s.heap n (.ref (adr .slf))) (hnot : name ∉ sAttrs)
    (hq : wpAny (model prog w) A (spliced (backTo pos (starEach (e :: rest) env))) (fun vs s₁ => On B s₁.heap ∧ codeAny (model prog w) A (.call (.ref f) ⟨.ref (adr .slf) :: vs, []⟩)
      (fun r s' => match r with | .ok (.ret v) => Q v s' | .ok _ => False | .error e => E e s') s₁) E s)
    (he : starEach (e :: rest) env = (false, eval e env) :: starEach rest env := by rfl) (hp : (backTo pos (starEach rest env)).any (·.1) = false := by rfl)
    {pl : Sem Bool} (hm : eval (.Call (.Attribute (.Name n p) name apos) (e :: rest) [] pos) env = (do
      let ov ← eval (.Name n p) env
      standAt apos.atName
      let (f, first) ← holding [ov] (getMethod ov name pl)
      callWith pos f first (backTo pos (starEach (e :: rest) env)) []) := by rfl) :
    wpAny (model prog w) A (eval (.Call (.Attribute (.Name n p) name apos) (e :: rest) [] pos) env) Q E s := by
  obtain ⟨dx, es, k, I, hg⟩ := R.h_not hnot
  refine MethodCall_ (N.name ?_) hm
  refine method_inst F G.K I (by have := c.plain; exact this) M.find M.fn.fn hg ?_
  rw [he] at hq ⊢
  refine callWith_of (P := K.In) (by show ((false || (backTo pos (starEach rest env)).any (·.1)) || false) = false; rw [hp]; rfl) (keeps_K M.fn.keep) (evalArgs_plain ?_)
  exact wpAny_mono hq (fun vs s₁ hs => ⟨G.in hs.1, wpAny_call hs.2⟩) fun _ _ x => x
theorem cur_levelN {lv : LV} {r : List LV} {n : Str} {p pos : Pos} {Q : Value → Shared → Prop} (G : Bas w K B) (kf : KF K) (F : Fr B L s.heap m) (R : Rep prog w B D adr S s.heap) (N : Nm env s.heap n (.ref (adr .slf))) (hph : 8 ≤ S.ph) (hlast : S.lvs = r ++ [lv]) (rm : Rm A 2)
    (hq : ∀ s', Eff No s s' → Q (.ref lv.ob) s')
    (he : eval (.Attribute (.Name n p) "_current_level" pos) env = (do
      let o ← eval (.Name n p) env
      standAt pos.atName
      let r ← holding [o] (getAttr o "_current_level" true)
      letTemporaryGo (.Name n p) o r
      pure r) := by with_unfolding_all rfl) :
    wpAny (model prog w) A (eval (.Attribute (.Name n p) "_current_level" pos) env) Q E s := by
  obtain ⟨es, k, f, I, _⟩ := R.has
  obtain ⟨rest, hr⟩ := kf.curR
  obtain ⟨pm, ho⟩ := kf.cur.at_
  refine Attribute_any_ (N.name (get_prop F G.K I (by have := kf.S.plain; exact this) kf.S.dict kf.curP kf.curG kf.curT hr ?_)) he
  refine call_fn (binds := [("self", .ref (adr .slf))]) G (s := { s with toks := s.toks + 1 }) (frOn F) ho kf.cur.code (rm.in1 (d := 1)).room (BindsTo.of_eq rfl) (locs rfl) (fun h₁ L F hL hk => ?_)
  have R₁ := R.keep hk
  obtain ⟨ol, h1, n, rfl, h2⟩ := R₁.o_lvs hph
  refine wpAny_execs_cons (wpAny_Return_some (Subscript_ (attr_name G F kf.S rfl (R₁.h_lvs hph) (by decide) rfl ?_)))
  have hls : Heap.IsList h₁ (adr .lvs) ((r.map fun lv => Value.ref lv.ob) ++ [Value.ref lv.ob]).toArray := by
    refine listO_is (k := n) ?_; rw [h1, hlast, List.map_append]; rfl
  refine UnaryOp_ (wpAny_Constant_int (P.neg_int (itemLast hls ?_)))
  exact wpAny_pure (hq _ ⟨fun b o _ e => hk b o e, rfl, rfl⟩)
theorem asnN {x : Str} {px pos : Pos} {value : PySem.Expr} {Q : Flow → Shared → Prop} (h : wpAny (model prog w) A (eval value env) (fun v s₁ => ∃ m₁, Fr B env.locals s₁.heap m₁ ∧ ∀ s₂, Fr B env.locals s₂.heap (updS m₁ x v) → Eff (fun b => b = env.locals) s₁ s₂ → Q .next s₂) E s)
    (hk : env.scope.kind = .function := by rfl) (hx : env.kindOf x = some .local := by rfl) (hs : swapsWith value (some (.Name x px)) pos.line env = pure false := by rfl) :
    wpAny (model prog w) A (exec (.Assign [.Name x px] value pos) env) Q E s := by
  refine wpAny_Assign_Name (wpAny_mono h (fun v s₁ ⟨m₁, F, hq⟩ => ?_) fun _ _ x => x) hs
  exact wpAny_storeName_local hx F.ns (fun h'' hn'' sb' => hq _ (F.set hn'' sb') (sb_eff sb' rfl)) (by show (env.scope.kind == .class || (env.scope.kind == .module && env.locals != env.globals)) = false; rw [hk]; rfl)
theorem ldN {x : Str} {v : Value} {pos : Pos} {Q : Value → Shared → Prop} (F : Fr B env.locals s.heap m) (hv : m x = some v) (h : Q v s) (hk : env.scope.kind = .function := by rfl) (hx : env.kindOf x = some .local := by rfl) (hd : (x == ("__debug__" : Str)) = false := by decide) :
    wpAny M A (eval (.Name x pos) env) Q E s := (Nm.loc F.ns hv hk hx hd).name h
end
end Dp
end
section
open PySem PySem.W PySem.Calls PyProof.Rows
namespace Dp
abbrev fmScope : Scope := dScope (meth "_find_model")
abbrev fmEnv (L : Addr) : Env := envX "SATSolver._find_model" fmScope L 93 (.ref 92) [("self", L + 1)]
structure GF (B : Heap) (D : Addr → Prop) (adr : Role → Addr) (L : Addr) (m : Str → Option Value) (h : Heap) : Prop where
  fr : Fr B L h m
  cell : h.IsCell (L + 1) (some (.ref (adr .slf)))
  nL : ¬ D L
  nc : ¬ D (L + 1)
  Bc : B.get? (L + 1) = none
section
variable {M : Model} {prog : Program} {w : World} {K : Frag} {B : Heap} {A : Around} {E : Value → Shared → Prop} {s s' s₁ s₂ : Shared} {L a l x C : Addr} {m m' : Str → Option Value} {adr adr' : Role → Addr} {D D₁ D₂ P : Addr → Prop} {S S' : SV} {cn : Str} {cs : Scope} {cd : Value} {h h' : Heap} {env : Env} {CL : List (List Int)} {hist : List (List Bool)} {r : List LV} {lv : LV}
theorem GF.self (F : GF B D adr L m h) : Nm (fmEnv L) h "self" (.ref (adr .slf)) := Nm.cell F.cell rfl
theorem IsCell.live {c : Addr} {v : Option Value} (x : h.IsCell c v) : ∃ o, h.get? c = some o := let ⟨o, e, _⟩ := x; ⟨o, e⟩
theorem GF.gr (F : GF B D adr L m s.heap) (g : Gr D D₁ s s₁) (hB : ∀ b, D b → B.get? b = none) (ha : adr' .slf = adr .slf) : GF B D₁ adr' L m s₁.heap := by
  refine ⟨g.fr F.fr F.nL hB, ?_, g.notin F.nL (Fr_live F.fr), g.notin F.nc (IsCell.live F.cell), F.Bc⟩
  obtain ⟨o, e, r⟩ := F.cell
  rw [ha]
  exact ⟨o, g.eff.keep _ _ F.nc e, r⟩
theorem GF.no (F : GF B D adr L m s.heap) (e : Eff No s s₁) : GF B D adr L m s₁.heap := by
  refine ⟨Fr_no F.fr e, ?_, F.nL, F.nc, F.Bc⟩
  obtain ⟨o, q, r⟩ := F.cell
  exact ⟨o, e.all q, r⟩
theorem GF.eff (F : GF B D adr L m s.heap) (e : Eff P s s₁) (hP : ∀ b, P b → D b) (hB : ∀ b, D b → B.get? b = none) : GF B D adr L m s₁.heap := F.gr (.of e hP) hB rfl
theorem GF.set (F : GF B D adr L m s.heap) (F' : Fr B L s₁.heap m') (e : Eff (fun b => b = L) s s₁) : GF B D adr L m' s₁.heap := by
  obtain ⟨o, q, r⟩ := F.cell
  exact ⟨F', ⟨o, e.keep _ _ (Nat.succ_ne_self L) q, r⟩, F.nL, F.nc, F.Bc⟩
theorem asnG {x : Str} {px pos : Pos} {value : PySem.Expr} {Q : Flow → Shared → Prop} (h : wpAny (model prog w) A (eval value (fmEnv L)) (fun v s₁ => ∃ m₁, GF B D adr L m₁ s₁.heap ∧ ∀ s₂, GF B D adr L (updS m₁ x v) s₂.heap → Eff (fun b => b = L) s₁ s₂ → Q .next s₂) E s)
    (hx : (fmEnv L).kindOf x = some .local := by rfl) (hs : swapsWith value (some (.Name x px)) pos.line (fmEnv L) = pure false := by rfl) :
    wpAny (model prog w) A (exec (.Assign [.Name x px] value pos) (fmEnv L)) Q E s := by
  refine asnN (B := B) (wpAny_mono h (fun v s₁ ⟨m₁, F, hq⟩ => ⟨m₁, F.fr, fun s₂ F₂ e₂ => hq s₂ (F.set F₂ e₂) e₂⟩) fun _ _ x => x) rfl hx hs
theorem undoN {p1 p2 p3 p4 : Pos} {Q : Flow → Shared → Prop} (G : Bas w K B) (kf : KF K) (F : GF B D adr L m s.heap) (R : Rep prog w B D adr S s.heap) (X : Xst CL hist S r lv) (rm : Rm A 3) (hz : S.hp.length + 2 * S.vs.length < 9900)
    (hq : ∀ s' D' ms S', ms.Perm lv.lits → Undo S ms S' → Rep prog w B D' adr { S' with lvs := r } s'.heap → Gr D D' s s' → GF B D' adr L m s'.heap → Q .next s')
    {pl : Sem Bool} (hm : eval (.Call (.Attribute (.Name "self" p1) "_undo" p2) ([]) [] p3) (fmEnv L) = (do
      let ov ← eval (.Name "self" p1) (fmEnv L)
      standAt p2.atName
      let (f, first) ← holding [ov] (getMethod ov "_undo" pl)
      callWith p3 f first (backTo p3 (starEach ([]) (fmEnv L))) []) := by rfl) :
    wpAny (model prog w) A (exec (.Expr (.Call (.Attribute (.Name "self" p1) "_undo" p2) [] [] p3) p4) (fmEnv L)) Q E s := by
  have t := X.gb.tl
  have hlvm : lv ∈ S.lvs := by rw [X.lvs]; simp
  have h1 := t.wf.vsz
  have h2 := t.wf.lvz hlvm
  have h3 : lv.lits.length ≤ S.vs.length := nodup_sub_le (t.wf.lv lv hlvm).1 fun x hx => (t.mem x).mpr ⟨lv, hlvm, hx⟩
  have h4 := X.gb.ph
  refine wpAny_Expr (self_callN0 G F.fr kf.S kf.fUn R F.self (by decide) ?_ hm)
  exact call_undo G kf (frOn F.fr) R rm (by omega) X.lvs t.wf.lvs (fun l hl => (t.wf.lv lv hlvm).2 l hl) (fun l hl => (t.mem l).mpr ⟨lv, hlvm, hl⟩) t.wf.vars t.wf.n (by show _ < 4096; omega) (by show _ < 4096; omega) X.gb.sk (by omega)
    fun s' D' ms S' hp u R' g => hq s' D' ms S' hp u R' g (F.gr g R.off rfl)
theorem lenLevels {f : Str} {fp p1 p2 pos : Pos} {Q : Value → Shared → Prop} (G : Bas w K B) (kf : KF K) (F : GF B D adr L m s.heap) (R : Rep prog w B D adr S s.heap) (hp : 8 ≤ S.ph) (hz : S.lvs.length ≤ 100) (hq : ∀ s' t, s'.heap = s.heap → Eff No s s' → Q (.int (S.lvs.length : Nat) t) s') (hf : f = "len" := by rfl) :
    wpAny (model prog w) A (eval (.Call (.Name f fp) [.Attribute (.Name "self" p1) "levels" p2] [] pos) (fmEnv L)) Q E s := by
  subst hf
  obtain ⟨ol, h1, k, rfl, _⟩ := R.o_lvs hp
  refine Call_ ((Nm.bui G kf (frOn F.fr)).name (callWith_builtin1 (args_cons (attrN G F.fr kf.S F.self (R.h_lvs hp) (by decide) rfl (args_nil ?_)))))
  refine call_len_list (s := { s with toks := s.toks + 1 }) (listO_is h1) (by rw [List.size_toArray, List.length_map]; omega) ?_
  rw [List.size_toArray, List.length_map]
  exact hq _ _ rfl ⟨fun b o _ q => q, rfl, rfl⟩
theorem curFlip {p1 p2 p3 : Pos} {Q : Value → Shared → Prop} (G : Bas w K B) (kf : KF K) (F : GF B D adr L m s.heap) (R : Rep prog w B D adr S s.heap) (hp : 8 ≤ S.ph) (hl : S.lvs = r ++ [lv]) (rm : Rm A 2) (hq : ∀ s', Eff No s s' → Q (.bool lv.flip) s') :
    wpAny (model prog w) A (eval (.Attribute (.Attribute (.Name "self" p1) "_current_level" p2) "flipped" p3) (fmEnv L)) Q E s := by
  refine Attribute_any_ (cur_levelN G kf F.fr R F.self hp hl rm fun s₁ e₁ => ?_)
  obtain ⟨t, _, h2, _⟩ := (R.keep fun b o q => e₁.all q : Rep prog w B D adr S s₁.heap).lattr hp (lvs_last hl)
  exact getAttr_has G (Fr_no F.fr e₁) kf.Lv h2 (by decide) rfl (hq _ ⟨fun b o _ q => e₁.all q, e₁.gens, e₁.os⟩)
theorem curDec {p1 p2 p3 : Pos} {Q : Value → Shared → Prop} (G : Bas w K B) (kf : KF K) (F : GF B D adr L m s.heap) (R : Rep prog w B D adr S s.heap) (hp : 8 ≤ S.ph) (hl : S.lvs = r ++ [lv]) (rm : Rm A 2) (hq : ∀ s' t, Eff No s s' → Q (.int lv.dec t) s') :
    wpAny (model prog w) A (eval (.Attribute (.Attribute (.Name "self" p1) "_current_level" p2) "decision" p3) (fmEnv L)) Q E s := by
  refine Attribute_any_ (cur_levelN G kf F.fr R F.self hp hl rm fun s₁ e₁ => ?_)
  obtain ⟨t, h1, _, _⟩ := (R.keep fun b o q => e₁.all q : Rep prog w B D adr S s₁.heap).lattr hp (lvs_last hl)
  exact getAttr_has G (Fr_no F.fr e₁) kf.Lv h1 (by decide) rfl (hq _ t ⟨fun b o _ q => e₁.all q, e₁.gens, e₁.os⟩)
theorem appendLv {e : PySem.Expr} {lit : Int} {fl : Bool} {p1 p2 p3 p4 p5 : Pos} {Q : Flow → Shared → Prop} (G : Bas w K B) (kf : KF K) (F : GF B D adr L m s.heap) (R : Rep prog w B D adr S s.heap) (hp : 8 ≤ S.ph) (hz : S.lvs.length ≤ 100)
    (he : ∀ {Q' : Value → Shared → Prop} {s₁ : Shared}, GF B D adr L m s₁.heap → (∀ s' ob dc st, NewLv w s₁ ob dc st lit fl s' → Q' (.ref ob) s') → wpAny (model prog w) A (eval e (fmEnv L)) Q' E s₁)
    (hq : ∀ s' D' adr' ob dc, Rep prog w B D' adr' { S with lvs := S.lvs ++ [⟨lit, fl, [], ob, dc⟩] } s'.heap → Gr D D' s s' → adr' .slf = adr .slf → GF B D' adr' L m s'.heap → Q .next s')
    (hs : starEach [e] (fmEnv L) = (false, eval e (fmEnv L)) :: starEach [] (fmEnv L) := by rfl)
    {pl : Sem Bool} (hm : eval (.Call (.Attribute (.Attribute (.Name "self" p1) "levels" p2) "append" p3) [e] [] p4) (fmEnv L) = (do
      let ov ← eval (.Attribute (.Name "self" p1) "levels" p2) (fmEnv L)
      standAt p3.atName
      let (f, first) ← holding [ov] (getMethod ov "append" pl)
      callWith p4 f first (backTo p4 (starEach [e] (fmEnv L))) []) := by rfl) :
    wpAny (model prog w) A (exec (.Expr (.Call (.Attribute (.Attribute (.Name "self" p1) "levels" p2) "append" p3) [e] [] p4) p5) (fmEnv L)) Q E s := by
  obtain ⟨ol, h1, k, rfl, hlv⟩ := R.o_lvs hp
  refine wpAny_Expr (MethodCall_ (attrN G F.fr kf.S F.self (R.h_lvs hp) (by decide) rfl (meth_list (s := { s with toks := s.toks + 1 }) h1 PySem.F.slot_list_append PySem.F.type_list_append (callWith_method1 (he := hs) (args_cons (he := hs) (he (F.no (s₁ := { s with toks := s.toks + 1 }) ⟨fun b o _ q => q, rfl, rfl⟩) fun s₁ ob dc st N => args_nil ?_))))) hm)
  have e1 : Eff No s s₁ := ⟨fun b o n q => N.e.keep b o n q, N.e.gens, N.e.os⟩
  have h1' : s₁.heap.get? (adr .lvs) = some (listO (S.lvs.map fun lv => Value.ref lv.ob).toArray k) := e1.all h1
  have R₁ : Rep prog w B D adr S s₁.heap := R.keep fun b o q => e1.all q
  refine list_push h1' (by rw [List.size_toArray, List.length_map, sizeLine_eq]; omega) fun h₂ k₂ sb₂ ho₂ => ?_
  obtain ⟨es, k', f, t, o2, hd, f1, f2, f3⟩ := N.o2
  obtain ⟨oset, o3, x3⟩ := N.o3
  have n1 : ¬ D ob := R.new N.n1
  have n2 : ¬ D dc := R.new N.n2
  have n3 : ¬ D st := R.new N.n3
  have oB := (frOn F.fr)
  have R₂ := R₁.addLv hp sb₂ (k := k₂) (lit := lit) (fl := fl) (by rw [ho₂]; simp) n1 n2 n3 (oB.none N.n1) (oB.none N.n2) (oB.none N.n3) N.d2 N.d3 N.o1 o2 hd f1 f2 f3 o3 x3
  have g : Gr D (fun x => D x ∨ x = ob ∨ x = dc ∨ x = st) s { s₁ with heap := h₂ } := by
    refine ⟨fun _ h => .inl h, ?_, e1.no.same (sb_eff (tk := s₁.toks) sb₂ (R.sub .lvs hp))⟩
    rintro b (hb | rfl | rfl | rfl)
    · exact .inl hb
    · exact .inr N.n1
    · exact .inr N.n2
    · exact .inr N.n3
  exact hq _ _ _ ob dc R₂ g (newLs_ne (by simp)) (F.gr g R.off (newLs_ne (by simp)))
end
end Dp
end
section
open PySem PySem.W PySem.Calls PyProof.Rows
namespace Dp
def whileBody : Stmt → List Stmt | .While _ b .. => b | _ => []
def wBody : List Stmt := whileBody (stAt (dBody (meth "_find_model")) 3)
def Dg (D : Addr → Prop) (L : Addr) (b : Addr) : Prop := D b ∨ b = L ∨ b = L + 1
section
variable {M : Model} {prog : Program} {w : World} {K : Frag} {B : Heap} {A : Around} {E : Value → Shared → Prop} {s s' s₁ s₂ : Shared} {L a l x C : Addr} {m m' : Str → Option Value} {adr adr' : Role → Addr} {D D' D₁ D₂ P : Addr → Prop} {S S' : SV} {cn : Str} {cs : Scope} {cd : Value} {h h' : Heap} {env : Env} {CL : List (List Int)} {hist : List (List Bool)} {r : List LV} {lv : LV} {full L₀ : List LV} {nn μ : Nat} {sy : Addr}
theorem Gr.dg (g : Gr D D' s s') : Gr (Dg D L) (Dg D' L) s s' := ⟨fun b h => h.imp (g.up b) id, fun b h => h.elim (fun z => (g.back b z).imp .inl id) fun z => .inl (.inr z), g.eff.sub fun _ h => .inl h⟩
theorem Gr.loL (e : Eff (fun b => b = L) s s') : Gr (Dg D L) (Dg D L) s s' := .of e fun b z => .inr (.inl z)
theorem eval_levelN {nv f : Str} {lit : Int} {t : Tok} {pv fp pos : Pos} {Q : Value → Shared → Prop} (G : Bas w K B) (kf : KF K) (o : On B s.heap) (rm : Rm A 2) (N1 : Nm env s.heap f (.ref 229)) (N2 : Nm env s.heap nv (.int lit t))
    (hq : ∀ s' ob dc st, NewLv w s ob dc st lit false s' → Q (.ref ob) s') :
    wpAny (model prog w) A (eval (.Call (.Name f fp) [.Name nv pv] [] pos) env) Q E s := by
  refine Call_ (N1.name (callWith_of (P := K.In) rfl (keeps_K kf.keepL) (evalArgs_plain (args_cons (N2.name (args_nil ⟨G.in o, wpAny_call ?_⟩))))))
  exact call_level G kf o rm (.inl ⟨rfl, rfl⟩) hq
theorem eval_levelFN {nv f : Str} {lit : Int} {t : Tok} {pv fp kp tp pos : Pos} {kk : Nat} {Q : Value → Shared → Prop} (G : Bas w K B) (kf : KF K) (o : On B s.heap) (rm : Rm A 2) (N1 : Nm env s.heap f (.ref 229)) (N2 : Nm env s.heap nv (.int lit t))
    (hq : ∀ s' ob dc st, NewLv w s ob dc st lit true s' → Q (.ref ob) s') :
    wpAny (model prog w) A (eval (.Call (.Name f fp) [.Name nv pv] [⟨some "flipped", .Constant (.bool true) kk tp, kp⟩] pos) env) Q E s := by
  refine Call_kw (N1.name ?_)
  refine callWith_of (P := K.In) rfl (keeps_K kf.keepL) (evalArgs_kw rfl ?_)
  refine args_cons (N2.name (args_nil ?_))
  show wpAny _ _ (evalAll [(do let v ← eval (Expr.Constant (Const.bool true) kk tp) env; standAt pos; pure v)]) _ _ _
  refine wpAny_evalAll_cons (wpAny_bind (wpAny_Constant_bool (wpAny_bind (wpAny_standAt (wpAny_pure (wpAny_pure ⟨G.in o, wpAny_call ?_⟩))))))
  exact call_level G kf o rm (.inr rfl) hq
structure At (prog : Program) (w : World) (B : Heap) (nn : Nat) (sy : Addr) (D : Addr → Prop) (adr : Role → Addr) (L : Addr) (m : Str → Option Value) (S : SV) (h : Heap) : Prop where
  rep : Rep prog w B D adr S h
  gf : GF B D adr L m h
  n : S.n = nn
  n4 : nn ≤ 4
  sy : S.syms = sy
structure HdS (prog : Program) (w : World) (B : Heap) (CL : List (List Int)) (nn : Nat) (sy : Addr) (hist : List (List Bool)) (μ : Nat) (D : Addr → Prop) (adr : Role → Addr) (L : Addr) (m : Str → Option Value) (S : SV) (fv : Bool) (h : Heap) : Prop where
  at_ : At prog w B nn sy D adr L m S h
  fl : m "flip_var" = some (.bool fv)
  b1 : S.cls.length + μ ≤ 200
  b2 : S.hp.length + 2 * S.vs.length + 16 * μ ≤ 9000
  st : (fv = false ∧ Ast CL hist S ∧ 2 * mu nn (S.lvs.drop 1) ≤ μ) ∨ (fv = true ∧ ∃ r lv, Fst CL hist S r lv ∧ 2 * mu nn (S.lvs.drop 1) + 1 ≤ μ)
def Over (CL : List (List Int)) (nn : Nat) (hist : List (List Bool)) : Prop := hist.Nodup ∧ ∀ ρ, Mdl CL nn ρ ↔ ρ ∈ hist
theorem turnN {p1 p2 p3 p4 p5 p6 q1 q2 q3 q4 r1 r2 r3 r4 r5 r6 r7 r8 r9 r10 t1 t2 t3 : Pos} {kt kk : Nat} {f : Str} {rest : List Stmt} {Q : Flow → Shared → Prop} (G : Bas w K B) (kf : KF K) (X : At prog w B nn sy D adr L m S s.heap) (x : Xst CL hist S r lv) (hr : r ≠ []) (hf : lv.flip = false) (rm : Rm A 3) (b2 : S.hp.length + 2 * S.vs.length + 16 * μ ≤ 9032)
    (hfull : full = S.lvs.drop 1 ++ L₀) (hfn : full.length ≤ nn) (hmu : 2 * mu nn full + 1 ≤ μ) (b1 : S.cls.length + μ ≤ 201)
    (hq : ∀ s' D' adr' m' S', HdS prog w B CL nn sy hist (μ - 2) D' adr' L m' S' true s'.heap → Gr (Dg D L) (Dg D' L) s s' → adr' .slf = adr .slf → 2 ≤ μ → wpAny (model prog w) A (execs rest (fmEnv L)) Q E s')
    (hF : f = "Level" := by rfl)
    {pl1 pl2 : Sem Bool} (hm1 : eval (.Call (.Attribute (.Name "self" q1) "_undo" q2) ([]) [] q3) (fmEnv L) = (do
      let ov ← eval (.Name "self" q1) (fmEnv L)
      standAt q2.atName
      let (f, first) ← holding [ov] (getMethod ov "_undo" pl1)
      callWith q3 f first (backTo q3 (starEach ([]) (fmEnv L))) []) := by rfl)
    (hm2 : eval (.Call (.Attribute (.Attribute (.Name "self" r1) "levels" r2) "append" r3) [.Call (.Name f r4) [.Name "flip_lit" r5] [⟨some "flipped", .Constant (.bool true) kk r6, r7⟩] r8] [] r9) (fmEnv L) = (do
      let ov ← eval (.Attribute (.Name "self" r1) "levels" r2) (fmEnv L)
      standAt r3.atName
      let (g, first) ← holding [ov] (getMethod ov "append" pl2)
      callWith r9 g first (backTo r9 (starEach [.Call (.Name f r4) [.Name "flip_lit" r5] [⟨some "flipped", .Constant (.bool true) kk r6, r7⟩] r8] (fmEnv L))) []) := by rfl)
    (hs1 : swapsWith (.UnaryOp .USub (.Attribute (.Attribute (.Name "self" p1) "_current_level" p2) "decision" p3) p4) (some (.Name "flip_lit" p5)) p6.line (fmEnv L) = pure false := by rfl)
    (hs2 : swapsWith (.Constant (.bool true) kt t1) (some (.Name "flip_var" t2)) t3.line (fmEnv L) = pure false := by rfl) :
    wpAny (model prog w) A (execs (.Assign [.Name "flip_lit" p5] (.UnaryOp .USub (.Attribute (.Attribute (.Name "self" p1) "_current_level" p2) "decision" p3) p4) p6 ::
      .Expr (.Call (.Attribute (.Name "self" q1) "_undo" q2) [] [] q3) q4 ::
      .Expr (.Call (.Attribute (.Attribute (.Name "self" r1) "levels" r2) "append" r3) [.Call (.Name f r4) [.Name "flip_lit" r5] [⟨some "flipped", .Constant (.bool true) kk r6, r7⟩] r8] [] r9) r10 ::
      .Assign [.Name "flip_var" t2] (.Constant (.bool true) kt t1) t3 :: rest) (fmEnv L)) Q E s := by
  subst hF
  have h8 : 8 ≤ S.ph := by have := x.gb.ph; omega
  have R := X.rep
  refine wpAny_execs_cons (asnG (UnaryOp_ (curDec G kf X.gf R h8 x.lvs (rm.less (by omega)) fun s₁ t e₁ => P.neg_int ⟨m, X.gf.no (s₁ := { s₁ with toks := s₁.toks + 1 }) ⟨fun b o _ q => e₁.all q, e₁.gens, e₁.os⟩, fun s₂ F₂ e₂ => ?_⟩)) (hs := hs1))
  have e2 : Eff (fun b => b = L) s s₂ := (e₁.no (own := fun b => b = L)).same ⟨fun b o n q => e₂.keep b o n q, e₂.gens, e₂.os⟩
  have R₂ : Rep prog w B D adr S s₂.heap := R.eff e2 fun b z => z ▸ X.gf.nL
  refine wpAny_execs_cons (undoN G kf F₂ R₂ x rm (by omega) (fun s₃ D₃ ms S₃ hp u R₃ g₃ F₃ => ?_) hm1)
  have tn := fun nl hd hfl hnl => x.turn (nl := nl) hr hf hp u hd hfl hnl
  have hn3 : S₃.n = S.n := by obtain ⟨_, _, rfl⟩ := u.ex; rfl
  have hp3 : S₃.ph = S.ph := by obtain ⟨_, _, rfl⟩ := u.ex; rfl
  have hrz : r.length ≤ 100 := by have := x.gb.tl.wf.lvs; rw [x.lvs] at this; simp at this; omega
  refine wpAny_execs_cons (appendLv (lit := -lv.dec) (fl := true) G kf F₃ R₃ (by show 8 ≤ S₃.ph; omega) hrz (fun {Q' s₁} Fq hq' => ?_) (fun s₄ D₄ adr₄ ob dc R₄ g₄ ha₄ F₄ => ?_) rfl hm2)
  · exact eval_levelFN G kf (frOn Fq.fr) (rm.less (by omega)) (Nm.glo G (frOn Fq.fr) kf.gLev) (Nm.loc Fq.fr.ns updS_self) hq'
  · refine wpAny_execs_cons (asnG (wpAny_Constant_bool ⟨_, F₄, fun s₅ F₅ e₅ => ?_⟩) (hs := hs2))
    have R₅ : Rep prog w B D₄ adr₄ { S₃ with lvs := r ++ [⟨-lv.dec, true, [], ob, dc⟩] } s₅.heap := R₄.eff e₅ fun b z => z ▸ F₄.nL
    obtain ⟨fs, z1, z2, z3, z4, z5⟩ := tn ⟨-lv.dec, true, [], ob, dc⟩ rfl rfl rfl
    have gg : Gr (Dg D L) (Dg D₄ L) s s₅ := ((Gr.loL e2).trans (g₃.dg.trans g₄.dg)).trans (Gr.loL e₅)
    have hd : S.lvs.drop 1 = r.drop 1 ++ [lv] := by rw [x.lvs, drop_snoc hr]
    have hturn : mu nn (r.drop 1 ++ [⟨-lv.dec, true, [], ob, dc⟩]) < mu nn full := by
      rw [hfull, hd, List.append_assoc]
      exact mu_turn nn (r.drop 1) lv ⟨-lv.dec, true, [], ob, dc⟩ L₀ (by rw [hfull, hd, List.append_assoc] at hfn; exact hfn) hf rfl
    have hdr : (r ++ [(⟨-lv.dec, true, [], ob, dc⟩ : LV)]).drop 1 = r.drop 1 ++ [⟨-lv.dec, true, [], ob, dc⟩] := drop_snoc hr
    refine hq s₅ D₄ adr₄ _ _ ⟨⟨R₅, F₅, z2.trans X.n, X.n4, z5.trans X.sy⟩, updS_self, ?_, ?_, .inr ⟨rfl, r, _, fs, ?_⟩⟩ gg ha₄ (by omega)
    · show S₃.cls.length + (μ - 2) ≤ 200; rw [z3]; omega
    · show S₃.hp.length + 2 * S₃.vs.length + 16 * (μ - 2) ≤ 9000; omega
    · show 2 * mu nn ((r ++ [(⟨-lv.dec, true, [], ob, dc⟩ : LV)]).drop 1) + 1 ≤ μ - 2
      rw [hdr]; omega
end
end Dp
end
section
open PySem PySem.W PySem.Calls PyProof.Rows
namespace Dp
def ifBody : Stmt → List Stmt | .If _ b .. => b | _ => []
def cBody : List Stmt := ifBody (stAt wBody 3)
section
variable {M : Model} {prog : Program} {w : World} {K : Frag} {B : Heap} {A : Around} {E : Value → Shared → Prop} {s s' s₁ s₂ : Shared} {L a l x C : Addr} {m m' : Str → Option Value} {adr adr' : Role → Addr} {D D' D₁ D₂ P : Addr → Prop} {S S' : SV} {cn : Str} {cs : Scope} {cd : Value} {h h' : Heap} {env : Env} {CL : List (List Int)} {hist : List (List Bool)} {r : List LV} {lv : LV} {full L₀ : List LV} {nn μ : Nat} {sy : Addr}
def PieceEnd (prog : Program) (w : World) (B : Heap) (CL : List (List Int)) (nn : Nat) (sy : Addr) (hist : List (List Bool)) (μ : Nat) (D : Addr → Prop) (adr : Role → Addr) (L : Addr) (s : Shared) (s' : Shared) : Prop :=
  ∃ D' adr' m' S' fv μ', μ' < μ ∧ HdS prog w B CL nn sy hist μ' D' adr' L m' S' fv s'.heap ∧ Gr (Dg D L) (Dg D' L) s s' ∧ adr' .slf = adr .slf
def RetEnd (CL : List (List Int)) (nn : Nat) (hist : List (List Bool)) (D : Addr → Prop) (L : Addr) (s : Shared) (v : Value) (s' : Shared) : Prop := v = .none ∧ Over CL nn hist ∧ Eff (Dg D L) s s'
theorem Xst.overN (x : Xst CL hist S [] lv) : Over CL S.n hist := ⟨x.gb.h3, x.over⟩
set_option maxHeartbeats 1000000 in
theorem conflictN (G : Bas w K B) (kf : KF K) (X : At prog w B nn sy D adr L m S s.heap) (x : Xst CL hist { S with unsat := false } r lv) (hr : r ≠ []) (rm : Rm A 4) (b2 : S.hp.length + 2 * S.vs.length + 16 * μ ≤ 9016)
    (hfn : (S.lvs.drop 1).length ≤ nn) (hmu : 2 * mu nn (S.lvs.drop 1) + 1 ≤ μ) (b1 : S.cls.length + μ ≤ 200) :
    wpAny (model prog w) A (execs cBody (fmEnv L)) (fun f s' => match f with | .next => PieceEnd prog w B CL nn sy hist μ D adr L s s' | .ret v => RetEnd CL nn hist D L s v s' | _ => False) E s := by
  have R := X.rep
  have hph := x.gb.ph
  have hph1 : 10 ≤ S.ph ∧ S.ph ≤ 20 := hph
  refine wpAny_execs_cons (plainObj_wpAny_Assign_Attribute (wpAny_Constant_bool (X.gf.self.name ?_)))
  refine set_unsat G (frOn X.gf.fr) kf.S R hph1.2 fun s₁ R₁ e₁ => ?_
  have F₁ := X.gf.eff e₁ (fun b z => z ▸ R.sub .dct trivial) R.off
  have g₁ : Gr D D s s₁ := .of e₁ fun b z => z ▸ R.sub .dct trivial
  have X₁ : At prog w B nn sy D adr L m { S with unsat := false } s₁.heap := ⟨R₁, F₁, X.n, X.n4, X.sy⟩
  generalize hS0 : ({ S with unsat := false } : SV) = S₀ at x R₁ X₁ hph
  have q1 : S₀.lvs = S.lvs := by rw [← hS0]
  have q2 : S₀.cls = S.cls := by rw [← hS0]
  have q3 : S₀.hp = S.hp := by rw [← hS0]
  have q4 : S₀.vs = S.vs := by rw [← hS0]
  have q5 : S₀.n = S.n := by rw [← hS0]
  rw [← q1] at hfn hmu
  rw [← q2] at b1
  rw [← q3, ← q4] at b2
  generalize hfull : S₀.lvs.drop 1 = full at hfn hmu
  refine wpAny_execs_cons (wpAny_While (codeAny_whileLoop (fun n s' => ∃ D' adr' S' r' lv' L₀, n = r'.length ∧ At prog w B nn sy D' adr' L m S' s'.heap ∧ Xst CL hist S' r' lv' ∧ r' ≠ [] ∧ full = S'.lvs.drop 1 ++ L₀ ∧ S'.cls.length + μ ≤ 200 ∧ S'.hp.length + 2 * S'.vs.length + 16 * μ ≤ 9016 ∧ Gr (Dg D L) (Dg D' L) s s' ∧ adr' .slf = adr .slf) ?_ r.length
    ⟨D, adr, S₀, r, lv, [], rfl, X₁, x, hr, by rw [hfull]; simp, b1, b2, g₁.dg, rfl⟩))
  rintro n s₂ ⟨D₂, adr₂, S₂, r₂, lv₂, L₀, rfl, X₂, x₂, hr₂, hfl₂, c1, c2, g₂, ha₂⟩
  have h8 : 8 ≤ S₂.ph := by have := x₂.gb.ph; omega
  refine wpAny_isTrue_value (curFlip G kf X₂.gf X₂.rep h8 x₂.lvs (rm.less (by omega)) fun s₃ e₃ => wpAny_truthy_bool ?_)
  have R₃ := X₂.rep.keep fun b o q => e₃.all q
  have F₃ := X₂.gf.no e₃
  have g₃ := g₂.trans (.no e₃)
  have X₃ : At prog w B nn sy D₂ adr₂ L m S₂ s₃.heap := ⟨R₃, F₃, X₂.n, X₂.n4, X₂.sy⟩
  cases hf : lv₂.flip with
  | true =>
    rw [if_pos rfl]
    refine wpAny_execs_cons (undoN G kf F₃ R₃ x₂ (rm.less (by omega)) (by omega) fun s₄ D₄ ms S₄ hp u R₄ g₄ F₄ => ?_)
    obtain ⟨_, pop⟩ := x₂.pop hf hp u
    obtain ⟨r', lv', hrl⟩ : ∃ r' lv', r₂ = r' ++ [lv'] := (snoc_or r₂).resolve_left hr₂
    obtain ⟨x₄, z1, z2, z3, z4, z5⟩ := pop r' lv' hrl
    have n8 : 8 ≤ S₄.ph := by obtain ⟨_, _, rfl⟩ := u.ex; exact h8
    have hz4 : r₂.length ≤ 100 := by have := x₂.gb.tl.wf.lvs; rw [x₂.lvs] at this; simp at this; omega
    refine wpAny_execs_cons (wpAny_If (wpAny_isTrue_Compare1 (wpAny_Constant_int (lenLevels (s := { s₄ with toks := s₄.toks + 1 }) G kf (F₄.no (s₁ := { s₄ with toks := s₄.toks + 1 }) ⟨fun b o _ q => q, rfl, rfl⟩) R₄ n8 hz4 fun s₅ t h₅ e₅ => P.eq_int (wpAny_truthy_bool ?_)))))
    have e5 : Eff No s₄ s₅ := ⟨fun b o n q => e₅.keep b o n q, e₅.gens, e₅.os⟩
    have g₅ : Gr (Dg D L) (Dg D₄ L) s s₅ := (g₃.trans g₄.dg).trans (.no e5)
    by_cases h1 : r₂.length = 1
    · rw [if_pos (by show (1 == ((r₂.length : Nat) : Int)) = true; rw [h1]; rfl)]
      have hr0 : r' = [] := by rw [hrl] at h1; simpa using h1
      subst hr0
      have ov : Over CL nn hist := by have := x₄.overN; rwa [show ({ S₄ with lvs := r₂ } : SV).n = nn from z2.trans X₂.n] at this
      refine wpAny_execs_cons (wpAny_Return_none ?_)
      exact ⟨rfl, ov, g₅.eff⟩
    · rw [if_neg (by show ¬ (1 == ((r₂.length : Nat) : Int)) = true; rw [beq_iff_eq]; omega)]
      refine wpAny_execs_nil (wpAny_execs_nil ⟨r'.length, by rw [hrl]; simp, D₄, adr₂, _, r', lv', lv₂ :: L₀, rfl, ⟨R₄.keep fun b o q => e5.all q, F₄.no e5, z2.trans X₂.n, X₂.n4, z5.trans X₂.sy⟩, x₄, ?_, ?_, by show S₄.cls.length + μ ≤ 200; rw [z3]; exact c1, by show S₄.hp.length + 2 * S₄.vs.length + 16 * μ ≤ 9016; omega, g₅, ha₂⟩)
      · intro z; rw [hrl, z] at h1; simp at h1
      · show full = r₂.drop 1 ++ lv₂ :: L₀
        rw [hfl₂, x₂.lvs, drop_snoc hr₂]; simp
  | false =>
    rw [if_neg (by decide)]
    refine wpAny_execs_nil ?_
    have hlz : S₂.lvs.length ≤ 100 := x₂.gb.tl.wf.lvs
    have hfn₂ : full.length ≤ nn := hfn
    have fin : ∀ s₅ D₅ S₅, At prog w B nn sy D₅ adr₂ L m S₅ s₅.heap → Xst CL hist S₅ r₂ lv₂ → S₅.lvs = S₂.lvs → S₅.cls.length + μ ≤ 201 → S₅.hp.length + 2 * S₅.vs.length + 16 * μ ≤ 9016 → Gr (Dg D L) (Dg D₅ L) s s₅ →
        wpAny (model prog w) A (execs (cBody.drop 3) (fmEnv L)) (fun f s' => match f with | .next => PieceEnd prog w B CL nn sy hist μ D adr L s s' | .ret v => RetEnd CL nn hist D L s v s' | _ => False) E s₅ := by
      intro s₅ D₅ S₅ X₅ x₅ hl₅ d1 d2 g₅
      refine turnN (μ := μ) (full := full) (L₀ := L₀) G kf X₅ x₅ hr₂ hf (rm.less (by omega)) (by omega) (by rw [hl₅]; exact hfl₂) hfn₂ hmu d1 (fun s₆ D₆ adr₆ m₆ S₆ H₆ g₆ ha₆ h2 => ?_)
      exact wpAny_execs_nil ⟨D₆, adr₆, m₆, S₆, true, μ - 2, by omega, H₆, g₅.trans g₆, ha₆.trans ha₂⟩
    have W₂ := x₂.gb.tl.wf
    have hph₂ := x₂.gb.ph
    refine wpAny_execs_cons (wpAny_If (wpAny_isTrue_value (attrN G F₃.fr kf.S F₃.self (R₃.h_learn (by omega)) (by decide) rfl (wpAny_truthy_bool ?_))))
    have e34 : Eff No s₃ { s₃ with toks := s₃.toks + 1 } := ⟨fun b o _ q => q, rfl, rfl⟩
    cases hlearn : S₂.learn with
    | false =>
      rw [if_neg (by decide)]
      exact wpAny_execs_nil (fin _ D₂ S₂ ⟨R₃, F₃.no e34, X₂.n, X₂.n4, X₂.sy⟩ x₂ rfl (by omega) c2 (g₃.trans (.no e34)))
    | true =>
      rw [if_pos rfl]
      obtain ⟨hl1, ⟨q, hl2⟩, hl3, a, ha, x₅⟩ := x₂.learn hr₂ hf (by omega)
      refine wpAny_execs_cons (wpAny_Expr (self_callN (s := { s₃ with toks := s₃.toks + 1 }) G (F₃.no e34).fr kf.S kf.fSA R₃ (F₃.no e34).self (by decide) (args_cons (self_callN0 (s := { s₃ with toks := s₃.toks + 1 }) G (F₃.no e34).fr kf.S kf.fSC R₃ (F₃.no e34).self (by decide) ?_))))
      refine call_conflict (s := { s₃ with toks := s₃.toks + 1 }) G kf (frOn F₃.fr) R₃ (rm.less (by omega)) h8 hlz fun s₄ b vs k e₄ hb hb4 hi => args_nil ⟨?_, ?_⟩
      · exact (frOn (Fr_no (F₃.no e34).fr e₄))
      have e4 : Eff No s₃ s₄ := ⟨fun b o n q => e₄.keep b o n q, e₄.gens, e₄.os⟩
      have F₄ := F₃.no e4
      have R₄ : Rep prog w B D₂ adr₂ S₂ s₄.heap := R₃.keep fun b o q => e4.all q
      have hbn : s₃.heap.get? b = none := hb
      have hbD : ¬ D₂ b := R₃.new hbn
      refine call_add_learned (cl := lcl S₂) (q := q) (a := a) (z := -lv₂.dec) G kf (frOn F₄.fr) R₄ W₂ (rm.less (by omega)) hph₂.1 hph₂.2 hbD ((frOn F₃.fr).none hbn) hb4 hi hl1 x₂.gb.sk x₂.gb.skz (by omega) ha hl2 fun s₅ D₅ R₅ g₅ up₅ => ?_
      have gg : Gr D₂ D₅ s₃ s₅ := by
        refine ⟨up₅, fun b' hb' => ?_, e4.no.trans g₅.eff fun b' z => z.imp id fun y => by rw [y]; exact hbn⟩
        rcases g₅.back b' hb' with (z | rfl) | z
        · exact .inl z
        · exact .inr hbn
        · exact .inr (e4.none z)
      have F₅ : GF B D₅ adr₂ L m s₅.heap := F₃.gr gg R₃.off rfl
      refine wpAny_execs_nil (fin s₅ D₅ _ ⟨R₅, F₅, X₂.n, X₂.n4, X₂.sy⟩ x₅ rfl ?_ c2 (g₃.trans gg.dg))
      show (S₂.cls ++ [lcl S₂]).length + μ ≤ 201
      simp; omega
end
end Dp
end
section
open PySem PySem.W PySem.Calls PyProof.Rows
namespace Dp
section
variable {M : Model} {prog : Program} {w : World} {K : Frag} {B : Heap} {A : Around} {E : Value → Shared → Prop} {s s' s₁ s₂ : Shared} {L a l x C : Addr} {m m' : Str → Option Value} {adr adr' : Role → Addr} {D D' D₁ D₂ P : Addr → Prop} {S S' : SV} {cn : Str} {cs : Scope} {cd : Value} {h h' : Heap} {env : Env} {CL : List (List Int)} {hist : List (List Bool)} {r : List LV} {lv : LV} {full L₀ : List LV} {nn μ : Nat} {sy : Addr}
theorem Fst.levels (f : Fst CL hist S r lv) : (S.lvs.drop 1).length ≤ S.n := by
  have hd : S.lvs.drop 1 = r.drop 1 ++ [lv] := by rw [f.lvs, drop_snoc f.ne]
  have := decs_lt f.gb.tl (L := r.drop 1) (by rw [f.lvs]; exact (List.drop_sublist 1 r).trans (List.sublist_append_left r [lv])) f.bs.dec f.dl f.dv
  rw [hd, List.length_append]; show (r.drop 1).length + 1 ≤ _; omega
theorem vs_le8 (t : Tl S) (h : S.n ≤ 4) : S.vs.length ≤ 8 := by have := lits_le t.wf.vsN t.wf.vs; omega
theorem fphase {t : Tok} (G : Bas w K B) (kf : KF K) (X : At prog w B nn sy D adr L m S s.heap) (f : Fst CL hist S r lv) (rm : Rm A 6) (hm : m "lit" = some (.int lv.dec t)) (hfv : m "flip_var" = some (.bool false)) (b2 : S.hp.length + 2 * S.vs.length + 16 * μ ≤ 9000)
    (hmu : 2 * mu nn (S.lvs.drop 1) + 1 ≤ μ) (b1 : S.cls.length + μ ≤ 200) :
    wpAny (model prog w) A (execs (wBody.drop 1) (fmEnv L)) (fun f s' => match f with | .next => PieceEnd prog w B CL nn sy hist μ D adr L s s' | .ret v => RetEnd CL nn hist D L s v s' | _ => False) E s := by
  have R := X.rep
  have hph := f.gb.ph
  have hlev := f.levels
  refine wpAny_execs_cons (wpAny_Expr (self_callN G X.gf.fr kf.S kf.fAL R X.gf.self (by decide) (args_cons (ldN (env := fmEnv L) X.gf.fr hm (args_nil ⟨(frOn X.gf.fr), ?_⟩)))))
  refine call_assign G kf (frOn X.gf.fr) R f.gb.tl.wf (rm.less (by omega)) (by omega) f.lvs f.dl (by rw [f.gb.que]; decide) fun s₁ ord hord R₁ e₁ => ?_
  obtain ⟨⟨k, U⟩, hup⟩ := f.up (by omega) hord
  have F₁ := X.gf.eff e₁ (fun b z => z) R.off
  refine wpAny_execs_cons (wpAny_Expr (self_callN0 G F₁.fr kf.S kf.fSi R₁ F₁.self (by decide) ?_))
  refine call_simplify G kf (frOn F₁.fr) R₁ U (rm.less (by omega)) fun s₂ D₂ adr₂ S₂ c hx R₂ g₂ ha₂ => ?_
  obtain ⟨lv2, u2, l2, k1, k2, k3, k4, k5, out⟩ := hup c S₂ hx
  have F₂ := F₁.gr g₂ R.off ha₂
  have gg : Gr D D₂ s s₂ := (Gr.of e₁ fun b z => z).trans g₂
  have X₂ : At prog w B nn sy D₂ adr₂ L m S₂ s₂.heap := ⟨R₂, F₂, k3.trans X.n, X.n4, k5.trans X.sy⟩
  have hn4 : S₂.n ≤ 4 := by rw [k3, X.n]; exact X.n4
  have hmu2 : mu nn (S₂.lvs.drop 1) = mu nn (S.lvs.drop 1) := by rw [l2, f.lvs, drop_snoc f.ne, drop_snoc f.ne]; exact mu_congr u2.flip
  have hlen2 : (S₂.lvs.drop 1).length ≤ nn := by
    have : (S₂.lvs.drop 1).length = (S.lvs.drop 1).length := by rw [l2, f.lvs]; simp
    rw [this, ← X.n]; exact hlev
  refine wpAny_execs_cons (wpAny_If (wpAny_isTrue_value (attrN G F₂.fr kf.S F₂.self R₂.h_unsat (by decide) rfl (wpAny_truthy_bool ?_))))
  have e23 : Eff No s₂ { s₂ with toks := s₂.toks + 1 } := ⟨fun b o _ q => q, rfl, rfl⟩
  rcases out with ⟨rfl, hu, a2⟩ | ⟨rfl, hu, x2⟩
  · rw [hu, if_neg (by decide)]
    have hv8 := vs_le8 a2.gb.tl hn4
    refine wpAny_execs_nil (wpAny_execs_nil ⟨D₂, adr₂, m, S₂, false, μ - 1, by omega, ⟨⟨R₂, F₂.no e23, X₂.n, X₂.n4, X₂.sy⟩, hfv, by rw [k1]; omega, by rw [k2]; omega, .inl ⟨rfl, a2, by rw [hmu2]; omega⟩⟩, gg.dg.trans (.no e23), ha₂⟩)
  · rw [hu, if_pos rfl]
    have hv8 : S₂.vs.length ≤ 8 := vs_le8 (S := { S₂ with unsat := false }) x2.gb.tl hn4
    refine wpAny_mono (conflictN (μ := μ) (s := { s₂ with toks := s₂.toks + 1 }) G kf ⟨R₂, F₂.no e23, X₂.n, X₂.n4, X₂.sy⟩ x2 f.ne (rm.less (by omega)) (by rw [k2]; omega) hlen2 (by rw [hmu2]; exact hmu) (by rw [k1]; exact b1)) (fun fl s₃ h₃ => ?_) fun _ _ z => z
    cases fl with
    | next =>
      obtain ⟨D₃, adr₃, m₃, S₃, fv, μ', h1, h2, h3, h4⟩ := h₃
      exact wpAny_execs_nil ⟨D₃, adr₃, m₃, S₃, fv, μ', h1, h2, (gg.dg.trans (.no e23)).trans h3, h4.trans ha₂⟩
    | ret v =>
      obtain ⟨h1, h2, h3⟩ := h₃
      have g4 := gg.dg (L := L) |>.trans (.no e23)
      exact ⟨h1, h2, g4.eff.trans h3 g4.back⟩
    | brk => exact h₃
    | cont => exact h₃
end
end Dp
end
section
open PySem PySem.W PySem.Calls PyProof.Rows
namespace Dp
section
variable {M : Model} {prog : Program} {w : World} {K : Frag} {B : Heap} {A : Around} {E : Value → Shared → Prop} {s s' s₁ s₂ : Shared} {L a l x C : Addr} {m m' : Str → Option Value} {cs : Scope} {cd : Value} {h h' : Heap} {env : Env}
theorem comp_head {e : PySem.Expr} {scope : Scope} {pos : Pos} {newAcc first : Sem Value} {g : Comprehension} {gs : List Comprehension} {cl : List (Str × Addr)} {use : Option (Value → Sem Unit)} {Q : Value → Shared → Prop} {acc : Obj} (hf : acc.isFreed = false)
    (hg : clausesOf e = g :: gs) (hclos : closureFor scope env = pure cl) (hkind : scope.kind = .function) (hnames : ∀ x ∈ scope.names, x.2 = .local → scope.names.lookup x.1 = some .local) (hs : ∀ x, foldedSetIterable g.iter env x = pure x)
    (hacc : ∀ {A : Around} {E : Value → Shared → Prop} {Q : Value → Shared → Prop} {s : Shared}, Q (.ref s.heap.objs.size) { s with heap := s.heap.push acc } → wpAny (model prog w) A newAcc Q E s)
    (h : wpAny (model prog w) A first (fun xv s₁ => wpAny (model prog w) A (pyIter xv) (fun itv s₂ => ∀ b C s₃, b = s₂.heap.objs.size → C = s₂.heap.objs.size + 1 → s₂.heap.get? b = none → s₂.heap.get? C = none → Eff No s₂ s₃ → s₃.heap.get? b = some acc → s₃.heap.Ns C (fun _ => none) → s₃.heap = pushCells ((s₂.heap.push acc).push dict0) scope.names →
      codeAny (model prog w) A (.compStart e 0 itv (.ref b) (cEnv scope cl C env)) (compPost (model prog w) A E use Q (.ref b) C) s₃) E s₁) E s) :
    wpAny (model prog w) A (comprehension e scope env pos newAcc false first use) Q E s := by
  refine wpAny_comprehension_free hg hs hclos hkind hnames (wpAny_mono h (fun xv s₁ h₁ => wpAny_mono h₁ (fun itv s₂ h₂ => ?_) fun _ _ x => x) fun _ _ x => x)
  refine hacc ?_
  refine new_comp_env ?_
  have hbn : s₂.heap.get? s₂.heap.objs.size = none := new_none
  have hCs : (s₂.heap.push acc).objs.size = s₂.heap.objs.size + 1 := Heap.size_push ..
  have hCn : s₂.heap.get? (s₂.heap.objs.size + 1) = none := by
    cases q : s₂.heap.get? (s₂.heap.objs.size + 1) with
    | none => rfl
    | some ob => exact absurd (Heap.lt_size q) (Nat.not_lt.mpr (Nat.le_succ _))
  have hkeep : ∀ b o, s₂.heap.get? b = some o → (pushCells ((s₂.heap.push acc).push dict0) scope.names).get? b = some o := fun b o e => pushCells_keeps _ _ _ _ (Heap.get?_push_of_some _ (Heap.get?_push_of_some _ e))
  have hb0 : (pushCells ((s₂.heap.push acc).push dict0) scope.names).get? s₂.heap.objs.size = some acc := pushCells_keeps _ _ _ _ (Heap.get?_push_of_some _ (Heap.get?_push_size _ hf))
  have hC0 : (pushCells ((s₂.heap.push acc).push dict0) scope.names).Ns (s₂.heap.objs.size + 1) fun _ => none := by
    have := (Heap.Ns.new (s₂.heap.push acc) (.type "dict")).keeps (pushCells_keeps scope.names _)
    rwa [hCs] at this
  have := h₂ s₂.heap.objs.size (s₂.heap.objs.size + 1) { s₂ with heap := pushCells ((s₂.heap.push acc).push dict0) scope.names } rfl rfl hbn hCn ⟨fun b o _ e => hkeep b o e, rfl, rfl⟩ hb0 hC0 rfl
  dsimp only
  rw [hCs]
  exact this
variable {κ : Type} [DecidableEq κ] {knd : KeyKind prog w κ}
theorem dcomp {α : Type} {V : α → Value → Prop} {kx vx iter : PySem.Expr} {x : Str} {px : Pos} {ifs : List PySem.Expr} {scope : Scope} {pos : Pos} {p0 : Pos} {cl : List (Str × Addr)} {use : Option (Value → Sem Unit)} {first : Sem Value} {Q : Value → Shared → Prop} (hh : A.handled = none)
    (hclos : closureFor scope env = pure cl) (hkind : scope.kind = .function) (hnames : ∀ x ∈ scope.names, x.2 = .local → scope.names.lookup x.1 = some .local)
    (hs : ∀ x, foldedSetIterable iter env x = pure x)
    (h : wpAny (model prog w) A first (fun xv s₁ => wpAny (model prog w) A (pyIter xv) (fun itv s₂ => ∃ it tmp dep T xs, itv = .ref it ∧ Iter prog w V tmp dep it T ∧ T xs s₂.heap ∧
      ∀ b C, s₂.heap.get? b = none → s₂.heap.get? C = none → b ≠ C → ∀ s₃, Eff No s₂ s₃ → s₃.heap = pushCells ((s₂.heap.push dict0).push dict0) scope.names → C = s₂.heap.objs.size + 1 → b = s₂.heap.objs.size →
        ∃ I : List α → List (κ × Value) → Shared → Prop, I xs [] s₃ ∧
        (∀ y r ys s s₁ v m, I (y :: r) ys s → V y v → Eff (fun b => b = it) s s₁ → s₁.heap.Ns C m → (∀ b ∈ tmp, ∃ o, s₁.heap.get? b = some o) → s₁.heap.DictOf knd b ys →
          wpAny (model prog w) A (assign (.Name x px) (cEnv scope cl C env) v) (fun _ s₂ =>
            wpAny (model prog w) A (forIn ifs true fun c r => if r = true then do let ok ← isTrue c (cEnv scope cl C env) (eval c (cEnv scope cl C env)); pure (ForInStep.yield ok) else pure (ForInStep.yield r)) (fun ok s₃ =>
              if ok = true then wpAny (model prog w) A (eval kx (cEnv scope cl C env)) (fun kv s₄ => wpAny (model prog w) A (eval vx (cEnv scope cl C env)) (fun vv s₅ => ∃ P m k, Eff P s₁ s₅ ∧ (∀ x, x ∈ tmp ∨ x ∈ dep ∨ x = b → ¬ P x) ∧ s₅.heap.Ns C m ∧ ys.length ≤ sizeLine ∧ knd.is k kv = true ∧ ∀ s₆, Eff (fun x => x = b) s₅ s₆ → I r (stored ys k vv) s₆) (fun _ _ => False) s₄) (fun _ _ => False) s₃
              else ∃ P m, Eff P s₁ s₃ ∧ (∀ x, x ∈ tmp ∨ x ∈ dep ∨ x = b → ¬ P x) ∧ s₃.heap.Ns C m ∧ I r ys s₃) (fun _ _ => False) s₂) (fun _ _ => False) s₁) ∧
        (∀ ys s s', I [] ys s → Eff (fun b => b = it) s s' → s'.heap.DictOf knd b ys → (∃ m, s'.heap.Ns C m) → compPost (model prog w) A E use Q (.ref b) C (.ok .next) s') ∧ C ∉ dep ∧ b ∉ dep) E s₁) E s) :
    wpAny (model prog w) A (comprehension (.DictComp kx vx [⟨.Name x px, iter, ifs, 0⟩] scope pos) scope env p0 (newDict) false first use) Q E s := by
  refine comp_head (acc := dict0) rfl rfl hclos hkind hnames hs (fun {A E Q s} q => wpAny_newObj_type q (by size_fits)) (wpAny_mono h (fun xv s₁ h₁ => wpAny_mono h₁ (fun itv s₂ h₂ => ?_) fun _ _ x => x) fun _ _ x => x)
  obtain ⟨it, tmp, dep, T, xs, rfl, IT, hT, hb⟩ := h₂
  rintro b C s₃ hbe hCe hbn hCn e₃ hb0 hC0 hp
  have hbC : b ≠ C := by omega
  obtain ⟨I, hI, step, done, hCd, hbd⟩ := hb b C hbn hCn hbC s₃ e₃ hp hCe hbe
  have hlive := IT.live hT
  have hitb : ∀ t ∈ tmp, t ≠ b := fun t ht z => by obtain ⟨o, q⟩ := hlive t ht; rw [z, hbn] at q; cases q
  have hitC : ∀ t ∈ tmp, t ≠ C := fun t ht z => by obtain ⟨o, q⟩ := hlive t ht; rw [z, hCn] at q; cases q
  have hd0 : s₃.heap.DictOf knd b ([] : List (κ × Value)) := ⟨_, #[], 0, hb0, ⟨rfl, rfl, rfl⟩, rfl, fun e he => by simp at he, .nil, List.nodup_nil⟩
  have loop : ∀ s₀, I xs [] s₀ → T xs s₀.heap → s₀.heap.DictOf knd b [] → s₀.heap.Ns C (fun _ => none) →
      codeAny (model prog w) A (.compLoop (.DictComp kx vx [⟨.Name x px, iter, ifs, 0⟩] scope pos) 0 (.ref it) (.ref b) (cEnv scope cl C env)) (compPost (model prog w) A E use Q (.ref b) C) s₀ := by
    intro s₀ hI0 hT0 hb00 hC00
    refine codeAny_compLoop_testsD (fun n s => ∃ r ys m, r.length = n ∧ I r ys s ∧ T r s.heap ∧ s.heap.DictOf knd b ys ∧ s.heap.Ns C m) (fun n s ⟨r, ys, m, hn, hI1, hT1, ha1, hc1⟩ => ?_) xs.length ⟨xs, [], _, rfl, hI0, hT0, hb00, hC00⟩
    have hib : it ≠ b := hitb it IT.mem
    have hiC : it ≠ C := hitC it IT.mem
    cases r with
    | nil =>
      refine IT.fin hh hT1 fun h' ex => ?_
      exact done ys s _ hI1 ⟨fun c o n e => ex c o n e, rfl, rfl⟩ (ha1.at fun o q => ex b o (Ne.symm hib) q) ⟨m, hc1.at' fun o e => ex _ o (Ne.symm hiC) e⟩
    | cons y r =>
      refine IT.item hT1 fun h' v tk sb hv hT2 => ?_
      have ha2 : h'.DictOf knd b ys := ha1.at fun o q => (sb.2 b (Ne.symm hib)).trans q
      have hc2 : h'.Ns C m := hc1.at' fun o e => (sb.2 _ (Ne.symm hiC)).trans e
      refine wpAny_mono (noexc (step y r ys s { s with heap := h', toks := tk } v m hI1 hv ⟨fun c o n e => (sb.2 c n).trans e, rfl, rfl⟩ hc2 (IT.live hT2) ha2)) (fun _ s₄ h4 => wpAny_mono (noexc h4) (fun ok s₅ h5 => ?_) fun _ _ x => x) fun _ _ x => x
      have stabT : ∀ {s₆ : Shared} {P : Addr → Prop}, Eff P { s with heap := h', toks := tk } s₆ → (∀ x, x ∈ tmp ∨ x ∈ dep ∨ x = b → ¬ P x) → T r s₆.heap := fun e hP => IT.stab hT2 fun c o hc q => e.keep c o (hP c (hc.elim .inl fun z => .inr (.inl z))) q
      cases ok with
      | false =>
        obtain ⟨P, m', e5, hP, hc5, hI5⟩ := h5
        exact ⟨r.length, by rw [← hn]; simp, r, ys, m', rfl, hI5, stabT e5 hP, ha2.at fun o q => e5.keep b o (hP b (.inr (.inr rfl))) q, hc5⟩
      | true =>
        refine wpAny_mono (noexc h5) (fun kv s₆ h6 => wpAny_mono (noexc h6) (fun vv s₇ ⟨P, m', k, e7, hP, hc7, hz, hk, hI7⟩ => ?_) fun _ _ x => x) fun _ _ x => x
        refine wpAny_dictSet_pairs hk (ha2.at fun o q => e7.keep b o (hP b (.inr (.inr rfl))) q) (fun h₈ hd₈ sb₈ => ?_) hz
        refine ⟨r.length, by rw [← hn]; simp, r, stored ys k vv, m', rfl, hI7 _ (sb_eff (tk := s₇.toks + 1) sb₈ rfl), ?_, hd₈, hc7.at' fun o e => (sb₈.2 _ (Ne.symm hbC)).trans e⟩
        exact IT.stab (stabT e7 hP) fun c o hc q => (sb₈.2 c (by
          rintro rfl
          rcases hc with hc | hc
          · exact hitb _ hc rfl
          · exact hbd hc)).trans q
  have hT3 : T xs s₃.heap := IT.stab hT fun c o _ q => e₃.all q
  exact codeAny_compStart_dict (loop _ hI hT3 hd0 hC0) (IT.self hT3 (loop _ hI hT3 hd0 hC0))
end
end Dp
end
section
open PySem PySem.W PySem.Calls PyProof.Rows PySem.W.X
namespace Dp
section
variable {prog : Program} {w : World} {A : Around} {c : Code} {fs : List Frame} {P : End → Shared → Prop} {s : Shared} {env : Env}
  {K : Flow → Sem PySem.Fin} {H : Value → Sem PySem.Fin} {gd : Bool → Bool} {lv : List Value → List Value}
theorem x_wrap {α : Type} {m : Sem α} {K : α → Sem PySem.Fin} {H : Value → Sem PySem.Fin} {gd : Bool → Bool} {lv : List Value → List Value} (h : wpAny (model prog w) (A.over c fs) m (fun a s' => SegX (model prog w) A c (K a) fs s' P) (fun x s' => SegX (model prog w) A c (H x) fs s' P) s) : SegX (model prog w) A c (m.wrap K H gd lv) fs s P := by
  rintro Γ p rfl hΓ
  obtain ⟨e, s', hr, hq⟩ := runs_wrap_of_wp (Φ := fun e s' => e.quiet = true ∧ P e s') K H gd lv m (h (Γ.over fs) p (hΓ.over fs)) (fun a p' s' h' => h' Γ p' rfl hΓ) (fun x p' s' h' => h' Γ p' rfl hΓ)
  exact ⟨e, s', hr, hq⟩
theorem x_wrapN {α : Type} {m : Sem α} {K : α → Sem PySem.Fin} {H : Value → Sem PySem.Fin} {gd : Bool → Bool} {lv : List Value → List Value} (h : wpAny (model prog w) (A.over c fs) m (fun a s' => SegX (model prog w) A c (K a) fs s' P) (fun _ _ => False) s) : SegX (model prog w) A c (m.wrap K H gd lv) fs s P :=
  x_wrap (wpAny_mono h (fun _ _ x => x) fun _ _ x => x.elim)
theorem x_execs_cons {st : Stmt} {rest : List Stmt} (h : SegX (model prog w) A c ((exec st env).wrap (fun f => match f with | .next => (execs rest env).wrap K H gd lv | f => K f) H gd lv) fs s P) :
    SegX (model prog w) A c ((execs (st :: rest) env).wrap K H gd lv) fs s P := by rw [execs_cons_wrap]; exact h
theorem x_If {test : PySem.Expr} {body orelse : List Stmt} {pos : Pos}
    (h : wpAny (model prog w) (A.over c fs) (isTrue test env (eval test env)) (fun b s' => SegX (model prog w) A c ((if b = true then execs body env else execs orelse env).wrap K H gd lv) fs s' P) (fun _ _ => False) s)
    (he : exec (.If test body orelse pos) env = (do standAt pos; let b ← isTrue test env (eval test env); if b = true then execs body env else execs orelse env) := by rfl) :
    SegX (model prog w) A c ((exec (.If test body orelse pos) env).wrap K H gd lv) fs s P := by
  rw [he, Sem.bind_eq_wrap', Sem.wrap_wrap]
  refine x_wrap (wpAny_standAt ?_)
  rw [Sem.bind_eq_wrap', Sem.wrap_wrap]
  exact x_wrapN h
theorem x_Yield {e : PySem.Expr} {ypos pos : Pos} (hfs : splitAtGen fs = none) (hgd : gd false = false) (hfg : fs.any Frame.guarded = false)
    (h : wpAny (model prog w) (A.over c fs) (eval e env) (fun v s' => ∀ l k p, (∀ s'' P', SegX (model prog w) A c (K .next) fs s'' P' → SegX (model prog w) A c (k (.send .none)) fs s'' P') → P (.susp v false l k c p fs) s') (fun _ _ => False) s)
    (hco : env.scope.isCoroutine = false := by rfl) (hi : interactive env = false := by rfl) :
    SegX (model prog w) A c ((exec (.Expr (.Yield (some e) ypos) pos) env).wrap K H gd lv) fs s P := by
  rw [exec_Expr env _ pos hi rfl]
  show SegX _ A c (.at pos fun _ => ((eval e env >>= fun v => (standAt ypos >>= fun _ => yieldOut env v)) >>= fun x =>
    dropValue (.Yield (some e) ypos) pos x).wrap K H gd lv) fs s P
  have hy : ∀ v, yieldOut env v = yieldValue v := fun v => by simp only [yieldOut, hco, Bool.false_eq_true, if_false]
  simp only [hy]
  refine s_cmd prog w A c fs P (m := standAt pos) (k := fun _ => _) (wpAny_standAt ?_)
  rw [Sem.bind_eq_wrap', Sem.bind_eq_wrap', Sem.wrap_wrap, Sem.wrap_wrap]
  refine x_wrapN (wpAny_mono h (fun v s' h' => ?_) fun _ _ x => x)
  refine s_cmd prog w A c fs P (m := standAt ypos) (k := fun _ => _) (wpAny_standAt ?_)
  show SegX _ A c (Sem.yield v (gd false) (lv []) _) fs s' P
  rw [hgd]
  exact s_yield prog w A c fs P s' v (lv []) _ hfs hfg fun p => h' _ _ p fun s'' P' hx => hx
abbrev whFr (K : Flow → Sem PySem.Fin) (H : Value → Sem PySem.Fin) (gd : Bool → Bool) (lv : List Value → List Value) (c : Code) (p : Pos) (env : Env) : Frame :=
  .ret (fun r => ((match r with | .ok f => (.pure f : Sem Flow) | .error e => .raise e).onRaise fun (x : Value) => do
        if (← field x 1) == Value.none then unsupported "frame.own-activation:exception-without-traceback"
        setFlight x env.frame).wrap K H gd lv) none (gd false) (lv []) c p []
theorem x_While {test : PySem.Expr} {body orelse : List Stmt} {pos : Pos}
    (h : ∀ p, SegX (model prog w) A (.whileLoop test body orelse env) (denote table (.whileLoop test body orelse env)) (whFr K H gd lv c p env :: fs) s P) :
    SegX (model prog w) A c ((exec (.While test body orelse pos) env).wrap K H gd lv) fs s P :=
  s_cmd prog w A c fs P (m := standAt pos) (k := fun _ => _) (wpAny_standAt (s_call prog w A c fs P s _ none (gd false) (lv []) _ h))
theorem x_back {p : Pos} {c' : Code} {f : Flow} (h : SegX (model prog w) A c (K f) fs s P) : SegX (model prog w) A c' (.pure (.done f)) (whFr K H gd lv c p env :: fs) s P :=
  s_pop prog w A c' fs P s (.ok f) _ rfl _ none (gd false) (lv []) c p [] h
theorem x_whileLoop {test : PySem.Expr} {body orelse : List Stmt}
    (h : wpAny (model prog w) (A.over (.whileLoop test body orelse env) fs) (isTrue test env (eval test env)) (fun b s' =>
        if b = true then
          SegX (model prog w) A (.whileLoop test body orelse env) ((execs body env).wrap (fun f => match f with
            | .next | .cont => .pure (.again (.whileLoop test body orelse env))
            | .brk => .pure (.done .next)
            | .ret v => .pure (.done (.ret v))) (fun e => (do noteFrame e env; theTreesLotGoes e : Sem Unit).wrap (fun _ => .raise e) .raise id id) id id) fs s' P
        else SegX (model prog w) A (.whileLoop test body orelse env) ((execs orelse env).wrap (fun f => .pure (.done f)) (fun e => (do noteFrame e env; theTreesLotGoes e : Sem Unit).wrap (fun _ => .raise e) .raise id id) id id) fs s' P)
      (fun _ _ => False) s) :
    SegX (model prog w) A (.whileLoop test body orelse env) (denote table (.whileLoop test body orelse env)) fs s P := by
  show SegX _ A _ ((whileTurn test body orelse env).onRaise (fun x => do noteFrame x env; theTreesLotGoes x)) fs s P
  unfold whileTurn
  rw [Sem.onRaise_eq_wrap, Sem.bind_eq_wrap', Sem.wrap_wrap]
  refine x_wrapN (wpAny_mono h (fun b s' hb => ?_) fun _ _ x => x)
  cases b with
  | true =>
    rw [if_pos rfl] at hb
    show SegX _ A _ (Sem.wrap _ _ _ _ (if true = true then _ else _)) fs s' P
    rw [if_pos rfl, Sem.bind_eq_wrap', Sem.wrap_wrap]
    rw [Sem.wrap_congr (execs body env) _ _ (K' := fun f => match f with
            | .next | .cont => .pure (.again (.whileLoop test body orelse env))
            | .brk => .pure (.done .next)
            | .ret v => .pure (.done (.ret v))) (H' := (fun e => (do noteFrame e env; theTreesLotGoes e : Sem Unit).wrap (fun _ => .raise e) .raise id id))
        (fun f => by cases f <;> rfl)
        (fun e => by first | exact Sem.bind_eq_wrap _ _ | (show (do noteFrame e env; theTreesLotGoes e : Sem Unit).bind (fun _ => .raise e) = _; rw [Sem.bind_eq_wrap]))]
    exact hb
  | false =>
    rw [if_neg Bool.false_ne_true] at hb
    show SegX _ A _ (Sem.wrap _ _ _ _ (if false = true then _ else _)) fs s' P
    rw [if_neg Bool.false_ne_true, Sem.bind_eq_wrap', Sem.wrap_wrap]
    rw [Sem.wrap_congr (execs orelse env) _ _ (K' := fun f => (.pure (.done f) : Sem PySem.Fin)) (H' := (fun e => (do noteFrame e env; theTreesLotGoes e : Sem Unit).wrap (fun _ => .raise e) .raise id id))
        (fun f => by rfl)
        (fun e => by first | exact Sem.bind_eq_wrap _ _ | (show (do noteFrame e env; theTreesLotGoes e : Sem Unit).bind (fun _ => .raise e) = _; rw [Sem.bind_eq_wrap]))]
    exact hb
theorem x_func {body : List Stmt}
    (h : SegX (model prog w) A (.func body env) ((execs body env).wrap (fun f => .pure (.done (.ret (match f with | .ret v => v | _ => .none))))
      (fun e => (leaving env e).wrap (fun _ => .raise e) .raise id id) id id) fs s P) :
    SegX (model prog w) A (.func body env) (denote table (.func body env)) fs s P := by
  show SegX _ A _ (.point [] fun _ => ((execs body env).onRaise (leaving env)) >>= _) fs s P
  refine s_cmd prog w A _ fs P (m := point) (k := fun _ => _) (wpAny_point ?_)
  rw [Sem.onRaise_eq_wrap, Sem.bind_eq_wrap', Sem.wrap_wrap]
  rw [Sem.wrap_congr (execs body env) _ _ (K' := fun f => .pure (.done (.ret (match f with | .ret v => v | _ => .none))))
    (H' := fun e => (leaving env e).wrap (fun _ => .raise e) .raise id id) (fun f => by cases f <;> rfl)
    (fun e => by rw [Sem.bind_eq_wrap, Sem.wrap_wrap]; rfl)]
  exact h
end
end Dp
end
section
open PySem PySem.W PySem.Calls PyProof.Rows PySem.W.X
namespace Dp
def ifElse : Stmt → List Stmt | .If _ _ o _ => o | _ => []
def eBody : List Stmt := ifElse (stAt wBody 0)
def yBody : List Stmt := ifBody (stAt eBody 2)
def yExpr : PySem.Expr := match stAt yBody 0 with | .Expr (.Yield (some e) _) _ => e | _ => .Name "" default
theorem valueAt_cons {κ : Type} [DecidableEq κ] {a : κ × Value} {r : List (κ × Value)} {k : κ} : valueAt (a :: r) k = if a.1 = k then some a.2 else valueAt r k := by
  unfold valueAt
  rw [List.find?_cons]
  by_cases h : a.1 = k <;> simp [h]
theorem valueAt_stored {κ : Type} [DecidableEq κ] {kvs : List (κ × Value)} {k k' : κ} {v : Value} : valueAt (stored kvs k v) k' = if k' = k then some v else valueAt kvs k' := by
  have A : ∀ kvs : List (κ × Value), valueAt (kvs.map fun kv => if kv.1 = k then (kv.1, v) else kv) k' = if k' = k then (if kvs.any (fun kv => kv.1 = k) then some v else none) else valueAt kvs k' := by
    intro kvs
    induction kvs with
    | nil => simp [valueAt]
    | cons a r ih =>
      rw [List.map_cons, valueAt_cons, ih, valueAt_cons]
      by_cases h1 : a.1 = k
      · rw [if_pos h1]
        by_cases h2 : k' = k
        · subst h2; simp [h1]
        · rw [if_neg (fun z => h2 (by rw [← z, h1])), if_neg h2, if_neg h2, if_neg (fun z => h2 (by rw [← z, h1]))]
      · rw [if_neg h1]
        by_cases h2 : k' = k
        · subst h2; rw [if_neg h1, if_pos rfl, if_pos rfl, List.any_cons, decide_eq_false h1, Bool.false_or]
        · simp [h2]
  have Bb : ∀ kvs : List (κ × Value), kvs.any (fun kv => kv.1 = k) = false → valueAt (kvs ++ [(k, v)]) k' = if k' = k then some v else valueAt kvs k' := by
    intro kvs
    induction kvs with
    | nil => intro _; rw [List.nil_append, valueAt_cons]; by_cases h : k' = k
             · subst h; simp
             · rw [if_neg (fun z => h z.symm), if_neg h]
    | cons a r ih =>
      intro hn
      rw [List.any_cons] at hn
      simp only [Bool.or_eq_false_iff, decide_eq_false_iff_not] at hn
      rw [List.cons_append, valueAt_cons, ih hn.2, valueAt_cons]
      by_cases h : k' = k
      · subst h; simp [hn.1]
      · simp [h]
  unfold stored
  split
  · rename_i h; rw [A, if_pos h]
  · rename_i h; rw [Bool.not_eq_true] at h; exact Bb kvs h
def dcScope : PySem.Expr → Scope | .DictComp _ _ _ s _ => s | .ListComp _ _ s _ => s | _ => default
def yScope : Scope := dcScope yExpr
structure Names (nm : Nat → Str) (n : Nat) (h : Heap) (sy : Addr) : Prop where
  at_ : ∃ (vals : List Value) (k : Nat), h.get? sy = some (listO vals.toArray k) ∧ vals.length = n ∧ ∀ i, i < n → ∃ t, vals[i]? = some (.str (nm i) t)
  inj : ∀ i j, i < n → j < n → nm i = nm j → i = j
def RowDict (prog : Program) (w : World) (nm : Nat → Str) (n : Nat) (h : Heap) (b : Addr) (ρ : List Bool) : Prop := ∃ kvs, h.DictOf (strKind prog w) b kvs ∧ kvs.length ≤ 100 ∧ ∀ k, k < n → valueAt kvs (nm k) = some (.bool (ρ.getD k false))
section
variable {M : Model} {prog : Program} {w : World} {K : Frag} {B : Heap} {A : Around} {E : Value → Shared → Prop} {s s' s₁ s₂ : Shared} {L a l x C : Addr} {m m' : Str → Option Value} {adr adr' : Role → Addr} {D D' D₁ D₂ P : Addr → Prop} {S S' : SV} {h h' : Heap} {nm : Nat → Str} {nn : Nat}
theorem length_stored {κ : Type} [DecidableEq κ] {kvs : List (κ × Value)} {k : κ} {v : Value} : (stored kvs k v).length ≤ kvs.length + 1 := by
  unfold stored; split
  · rw [List.length_map]; omega
  · simp
theorem yield_dict {a1 a2 a3 a4 a5 a7 a8 a9 b1 b3 b4 c1 c2 c3 c4 : Pos} {a6 b2 : Nat} {Q : Value → Shared → Prop} (G : Bas w K B) (kf : KF K) (F : GF B D adr L m s.heap) (R : Rep prog w B D adr S s.heap) (t : Tl S) (hc : ∀ x, IsLit S.n x → S.isV x = true) (N : Names nm S.n s.heap S.syms) (hh : A.handled = none)
    (hq : ∀ s' b, s.heap.get? b = none → RowDict prog w nm S.n s'.heap b (rowOf S) → Eff No s s' → Q (.ref b) s') :
    wpAny (model prog w) A (eval (.DictComp (.Subscript (.Attribute (.Name "self" a1) "symbols" a2) (.BinOp (.Call (.Name "abs" a3) [.Name "lit" a4] [] a5) .Sub (.Constant (.int 1) a6 a7) a8) a9) (.Compare (.Name "lit" b1) [.Gt] [.Constant (.int 0) b2 b3] b4) [⟨.Name "lit" c1, .Attribute (.Name "self" c2) "var_settings" c3, [], 0⟩] yScope c4) (fmEnv L)) Q E s := by
  rw [arm_eval_DictComp]
  refine dcomp (knd := strKind prog w) (cl := [("self", L + 1)]) (V := IsInt) hh rfl rfl (by decide) (by intro _; rfl) ?_
  obtain ⟨ov, v1, v2⟩ := R.o_vset
  have hvz := t.wf.vsz
  refine attrN G F.fr kf.S F.self R.h_vset (by decide) rfl ?_
  refine iter_setI (s := { s with toks := s.toks + 1 }) v1 v2 (by show _ < 4096; omega) fun s₂ tmp it T ms e₂ hfr IT hT hp => ?_
  have e2 : Eff No s s₂ := ⟨fun b o n q => e₂.keep b o n q, e₂.gens, e₂.os⟩
  refine ⟨it, tmp, [adr .vset], T, ms, rfl, IT, hT, fun b C hb hC hbC s₃ e₃ hp3 hCe hbe => ?_⟩
  have e3 := e2.same e₃
  have hbn := e2.none hb
  have hCn := e2.none hC
  have hts : ∀ b ∈ tmp, s.heap.get? b = none := fun b hb => hfr b hb
  have hvl : ∃ o, s₂.heap.get? (adr .vset) = some o := ⟨_, e2.all v1⟩
  refine ⟨fun r ys s' => ∃ done, done ++ r = ms ∧ Eff No s s' ∧ ys.length ≤ done.length ∧ (∀ k, k < S.n → ((k : Int) + 1 ∈ done → valueAt ys (nm k) = some (.bool true)) ∧ (-((k : Int) + 1) ∈ done → valueAt ys (nm k) = some (.bool false))), ⟨[], rfl, e3, by simp, fun k hk => ⟨fun z => (nomatch z), fun z => (nomatch z)⟩⟩, ?_, ?_, ?_, ?_⟩
  · rintro y r ys s₅ s₆ v m ⟨done, hdone, e5, hlen, hvals⟩ ⟨tk, rfl⟩ e6 hC6 hlive hacc
    have hyv : y ∈ S.vs := hp.mem_iff.mp (by rw [← hdone]; simp)
    have hyl := t.wf.vs y hyv
    have e6' : Eff No s s₆ := eff_new e5 e6 fun b z => by rw [z]; exact hts _ IT.mem
    refine wpAny_assign_Name (wpAny_storeName_local (by rfl) hC6 (fun h₇ hn7 sb₇ => ?_) (by rfl))
    refine wpAny_tests_nil ?_
    rw [if_pos rfl]
    have e67 : Eff (fun x => x = C) s₆ { s₆ with heap := h₇, toks := s₆.toks + 1 } := sb_eff sb₇ rfl
    generalize hs7 : ({ s₆ with heap := h₇, toks := s₆.toks + 1 } : Shared) = s₇ at e67
    have hn7' : s₇.heap.Ns C (fun z => if z = Str.ofString "lit" then some (.int y tk) else m z) := by subst hs7; exact hn7
    have e7 : Eff No s s₇ := eff_new e6' e67 fun x z => by rw [z]; exact hCn
    have F7 := F.no e7
    have R7 : Rep prog w B D adr S s₇.heap := R.keep fun b o q => e7.all q
    obtain ⟨vals, kv, hv1, hv2, hv3⟩ := N.at_
    have hv7 := e7.all hv1
    have selfN : ∀ {s' : Shared}, Eff No s₇ s' → Nm (cEnv yScope [("self", L + 1)] C (fmEnv L)) s'.heap "self" (.ref (adr .slf)) := fun e => Nm.cell (F7.no e).cell rfl
    have litN : ∀ {s' : Shared}, s'.heap = s₇.heap → Nm (cEnv yScope [("self", L + 1)] C (fmEnv L)) s'.heap "lit" (.int y tk) := fun e => Nm.loc (by rw [e]; exact hn7') (if_pos rfl)
    have hy1 : (y.natAbs : Int) - 1 = ((y.natAbs - 1 : Nat) : Int) := by have := hyl.1; omega
    have hyn : y.natAbs - 1 < S.n := by have := hyl.2; have := hyl.1; omega
    obtain ⟨tn, hvn⟩ := hv3 _ hyn
    have n4 := t.wf.n
    refine Subscript_ (attrN (s := s₇) G F7.fr kf.S (selfN ⟨fun b o _ q => q, rfl, rfl⟩) R7.h_syms (by decide) rfl ?_)
    refine wpAny_BinOp (Call_ (Nm.name (s := { s₇ with toks := s₇.toks + 1 }) (Nm.bui G kf (frOn F7.fr)) (callWith_builtin1 (args_cons (Nm.name (s := { s₇ with toks := s₇.toks + 1 }) (litN rfl) (args_nil (call_abs_int fun u tk' => ?_)))))))
    have ea : (if y < 0 then -y else y) = (y.natAbs : Int) := by split <;> omega
    rw [ea]
    refine wpAny_Constant_int (P.sub_int ?_)
    rw [hy1]
    refine itemList (k := y.natAbs - 1) (vs := vals) (listO_is hv7) hvn (by rw [hv2, sizeLine_eq]; omega) ?_
    refine wpAny_Compare1 (Nm.name (s := ⟨s₇.heap, s₇.gens, s₇.drawn, tk' + 1 + 1, s₇.os⟩) (litN rfl) (wpAny_Constant_int (P.gt_int ?_)))
    have hdl : done.length ≤ 40 := by have h1 : done.length ≤ ms.length := by rw [← hdone]; simp
                                      have h2 := hp.length_eq; omega
    refine ⟨fun x => x = C, _, nm (y.natAbs - 1), ⟨e67.keep, e67.gens, e67.os⟩, ?_, hn7', by rw [sizeLine_eq]; omega, strKind_is _ _ _ _, fun s₈ e₈ => ⟨done ++ [y], by rw [List.append_assoc]; exact hdone, ?_, ?_, ?_⟩⟩
    · rintro x (hx | hx | hx) z
      · obtain ⟨o, q⟩ := IT.live hT x hx; rw [z, hC] at q; cases q
      · rw [List.mem_singleton] at hx; obtain ⟨o, q⟩ := hvl; rw [← hx, z, hC] at q; cases q
      · exact hbC (hx.symm.trans z)
    · exact eff_new e7 ⟨e₈.keep, e₈.gens, e₈.os⟩ fun x z => by rw [z]; exact hbn
    · rw [List.length_append]; exact Nat.le_trans length_stored (Nat.succ_le_succ hlen)
    · intro k hk
      have key : ∀ z : Int, z.natAbs = k + 1 → z ∈ S.vs → (z = y ↔ nm k = nm (y.natAbs - 1)) := fun z hz hzv => by
        constructor
        · rintro rfl; rw [hz]; rfl
        · intro e
          have e1 := N.inj k (y.natAbs - 1) hk hyn e
          have e2 : z.natAbs = y.natAbs := by have := hyl.1; omega
          rcases Int.natAbs_eq_natAbs_iff.mp e2 with w | w
          · exact w
          · exact absurd (w ▸ hzv) (t.cons y hyv)
      have hin : ∀ z ∈ done ++ [y], z ∈ S.vs := fun z hz => hp.mem_iff.mp (by
        rw [← hdone]
        rcases List.mem_append.mp hz with q | q
        · exact List.mem_append_left _ q
        · rw [List.mem_singleton] at q; rw [q]; simp)
      refine ⟨fun hm => ?_, fun hm => ?_⟩
      · have hk2 := key ((k : Int) + 1) (by omega) (hin _ hm)
        rw [valueAt_stored]
        by_cases hz : (k : Int) + 1 = y
        · rw [if_pos (hk2.mp hz), ← hz, decide_eq_true (by omega)]
        · rw [if_neg fun q => hz (hk2.mpr q)]
          rcases List.mem_append.mp hm with q | q
          · exact (hvals k hk).1 q
          · exact absurd (List.mem_singleton.mp q) hz
      · have hk2 := key (-((k : Int) + 1)) (by omega) (hin _ hm)
        rw [valueAt_stored]
        by_cases hz : -((k : Int) + 1) = y
        · rw [if_pos (hk2.mp hz), ← hz, decide_eq_false (by omega)]
        · rw [if_neg fun q => hz (hk2.mpr q)]
          rcases List.mem_append.mp hm with q | q
          · exact (hvals k hk).2 q
          · exact absurd (List.mem_singleton.mp q) hz
  · rintro ys s₅ s₆ ⟨done, hdone, e5, hlen, hvals⟩ e6 hacc ⟨m, hm⟩
    rw [List.append_nil] at hdone; subst hdone
    have e6' : Eff No s s₆ := eff_new e5 e6 fun b z => by rw [z]; exact hts _ IT.mem
    refine ⟨m, hm, fun h' sb => ?_⟩
    refine hq { s₆ with heap := h' } b hbn ⟨ys, hacc.at fun o q => (sb.2 b hbC).trans q, by have := hp.length_eq; omega, fun k hk => ?_⟩ (eff_new e6' (sb_eff (P := fun x => x = C) (tk := s₆.toks) sb rfl) fun x z => by rw [show x = C from z]; exact hCn)
    rw [rowOf_getD hk]
    have hx : IsLit S.n ((k : Int) + 1) := ⟨by omega, by omega⟩
    rcases (t.var _ hx).mp (hc _ hx) with q | q
    · rw [decide_eq_true q]; exact (hvals k hk).1 (hp.mem_iff.mpr q)
    · rw [decide_eq_false fun z => t.cons _ z q]; exact (hvals k hk).2 (hp.mem_iff.mpr q)
  · intro z; rw [List.mem_singleton] at z; obtain ⟨o, q⟩ := hvl; rw [← z, hC] at q; cases q
  · intro z; rw [List.mem_singleton] at z; obtain ⟨o, q⟩ := hvl; rw [← z, hb] at q; cases q
end
end Dp
end
section
open PySem PySem.W PySem.Calls PyProof.Rows PySem.W.X
namespace Dp
section
variable {M : Model} {prog : Program} {w : World} {K : Frag} {B : Heap} {A : Around} {E : Value → Shared → Prop} {s s' s₁ s₂ : Shared} {L a l x C : Addr} {m m' : Str → Option Value} {adr adr' : Role → Addr} {D D' D₁ D₂ P : Addr → Prop} {S S' : SV} {cn : Str} {cs : Scope} {cd : Value} {h h' : Heap} {env : Env} {CL : List (List Int)} {hist : List (List Bool)} {r : List LV} {lv : LV} {full L₀ : List LV} {nn μ : Nat} {sy : Addr}
theorem yphase (G : Bas w K B) (kf : KF K) (X : At prog w B nn sy D adr L m S s.heap) (x : Xst CL hist S r lv) (rm : Rm A 4) (b2 : S.hp.length + 2 * S.vs.length + 16 * μ ≤ 9000)
    (hfn : (S.lvs.drop 1).length ≤ nn) (hmu : 2 * mu nn (S.lvs.drop 1) ≤ μ) (b1 : S.cls.length + μ ≤ 200) :
    wpAny (model prog w) A (execs (yBody.drop 1) (fmEnv L)) (fun f s' => match f with | .cont => PieceEnd prog w B CL nn sy hist μ D adr L s s' | .ret v => RetEnd CL nn hist D L s v s' | _ => False) E s := by
  generalize hfull : S.lvs.drop 1 = full at hfn hmu
  have hmup : 0 < mu nn full := mu_pos nn full hfn
  refine wpAny_execs_cons (wpAny_While (codeAny_whileLoop (fun n s' => ∃ D' adr' S' r' lv' L₀, n = r'.length ∧ At prog w B nn sy D' adr' L m S' s'.heap ∧ Xst CL hist S' r' lv' ∧ full = S'.lvs.drop 1 ++ L₀ ∧ S'.cls.length + μ ≤ 200 ∧ S'.hp.length + 2 * S'.vs.length + 16 * μ ≤ 9000 ∧ Gr (Dg D L) (Dg D' L) s s' ∧ adr' .slf = adr .slf) ?_ r.length
    ⟨D, adr, S, r, lv, [], rfl, X, x, by rw [hfull]; simp, b1, b2, .no ⟨fun _ _ _ q => q, rfl, rfl⟩, rfl⟩))
  rintro n s₂ ⟨D₂, adr₂, S₂, r₂, lv₂, L₀, rfl, X₂, x₂, hfl₂, c1, c2, g₂, ha₂⟩
  have h8 : 8 ≤ S₂.ph := by have := x₂.gb.ph; omega
  refine wpAny_isTrue_value (curFlip G kf X₂.gf X₂.rep h8 x₂.lvs (rm.less (by omega)) fun s₃ e₃ => wpAny_truthy_bool ?_)
  have R₃ := X₂.rep.keep fun b o q => e₃.all q
  have F₃ := X₂.gf.no e₃
  have g₃ := g₂.trans (.no e₃)
  have X₃ : At prog w B nn sy D₂ adr₂ L m S₂ s₃.heap := ⟨R₃, F₃, X₂.n, X₂.n4, X₂.sy⟩
  cases hf : lv₂.flip with
  | true =>
    rw [if_pos rfl]
    refine wpAny_execs_cons (undoN G kf F₃ R₃ x₂ (rm.less (by omega)) (by omega) fun s₄ D₄ ms S₄ hp u R₄ g₄ F₄ => ?_)
    obtain ⟨hr₂, pop⟩ := x₂.pop hf hp u
    obtain ⟨r', lv', hrl⟩ : ∃ r' lv', r₂ = r' ++ [lv'] := (snoc_or r₂).resolve_left hr₂
    obtain ⟨x₄, z1, z2, z3, z4, z5⟩ := pop r' lv' hrl
    refine wpAny_execs_nil ⟨r'.length, by rw [hrl]; simp, D₄, adr₂, _, r', lv', lv₂ :: L₀, rfl, ⟨R₄, F₄, z2.trans X₂.n, X₂.n4, z5.trans X₂.sy⟩, x₄, ?_, by show S₄.cls.length + μ ≤ 200; rw [z3]; exact c1, by show S₄.hp.length + 2 * S₄.vs.length + 16 * μ ≤ 9000; omega, g₃.trans g₄.dg, ha₂⟩
    show full = r₂.drop 1 ++ lv₂ :: L₀
    rw [hfl₂, x₂.lvs, drop_snoc hr₂]; simp
  | false =>
    rw [if_neg (by decide)]
    refine wpAny_execs_nil ?_
    have hlz : S₂.lvs.length ≤ 100 := x₂.gb.tl.wf.lvs
    refine wpAny_execs_cons (wpAny_If (wpAny_isTrue_Compare1 (lenLevels G kf F₃ R₃ h8 hlz fun s₅ t h₅ e₅ => wpAny_Constant_int (P.eq_int (wpAny_truthy_bool ?_)))))
    have hlen : S₂.lvs.length = r₂.length + 1 := by rw [x₂.lvs]; simp
    have e5 : Eff No s₃ { s₅ with toks := s₅.toks + 1 } := ⟨fun b o n q => e₅.keep b o n q, e₅.gens, e₅.os⟩
    by_cases h1 : r₂ = []
    · rw [if_pos (by show (((S₂.lvs.length : Nat) : Int) == 1) = true; rw [hlen, h1]; rfl)]
      subst h1
      have ov : Over CL nn hist := by have := x₂.overN; rwa [X₂.n] at this
      exact wpAny_execs_cons (wpAny_Return_none ⟨rfl, ov, (g₃.trans (.no e5)).eff⟩)
    · rw [if_neg (by show ¬ (((S₂.lvs.length : Nat) : Int) == 1) = true; rw [beq_iff_eq]; have : r₂.length ≠ 0 := fun z => h1 (List.length_eq_zero_iff.mp z); omega)]
      refine wpAny_execs_nil ?_
      refine turnN (s := { s₅ with toks := s₅.toks + 1 }) (μ := μ + 1) (full := full) (L₀ := L₀) G kf ⟨R₃.keep fun b o q => e5.all q, F₃.no e5, X₂.n, X₂.n4, X₂.sy⟩ x₂ h1 hf (rm.less (by omega)) (by omega) hfl₂ hfn (by omega) (by omega) (fun s₆ D₆ adr₆ m₆ S₆ H₆ g₆ ha₆ h2 => ?_)
      exact wpAny_execs_cons (wpAny_Continue ⟨D₆, adr₆, m₆, S₆, true, μ + 1 - 2, by omega, H₆, (g₃.trans (.no e5)).trans g₆, ha₆.trans ha₂⟩)
end
end Dp
end
section
open PySem PySem.W PySem.Calls PyProof.Rows PySem.W.X
namespace Dp
section
variable {M : Model} {prog : Program} {w : World} {K : Frag} {B : Heap} {A : Around} {E : Value → Shared → Prop} {s s' s₁ s₂ : Shared} {L a l x C : Addr} {m m' : Str → Option Value} {adr adr' : Role → Addr} {D D' D₁ D₂ R₀ : Addr → Prop} {S S' : SV} {cn : Str} {cs : Scope} {cd : Value} {h h' : Heap} {env : Env} {CL : List (List Int)} {hist : List (List Bool)} {r : List LV} {lv : LV} {full L₀ : List LV} {nn μ : Nat} {sy : Addr} {nm : Nat → Str}
theorem Rm.overF {d : Nat} {b : List Stmt} {env : Env} (x : Rm A (d + 1)) : Rm (A.over (.func b env) []) d :=
  ⟨x.hh, by have := x.dep; show A.depth + 0 + 1 + d < _; omega, by have := x.un; show A.units + 0 + 3 + 100 * d < _; omega⟩
theorem Rm.overW {d : Nat} {b b2 o : List Stmt} {t : PySem.Expr} {env env2 : Env} {Kk : Flow → Sem PySem.Fin} {H : Value → Sem PySem.Fin} {gd : Bool → Bool} {lv : List Value → List Value} {p : Pos} (x : Rm A (d + 1)) : Rm (A.over (.whileLoop t b o env) [whFr Kk H gd lv (.func b2 env2) p env]) d :=
  ⟨x.hh, by have := x.dep; show A.depth + (1 + 0) + 0 + d < _; omega, by have := x.un; show A.units + (3 + 0) + 0 + 100 * d < _; omega⟩
end
def EndK (prog : Program) (w : World) (B : Heap) (CL : List (List Int)) (nn : Nat) (nm : Nat → Str) (rec : List (List Bool) → (Addr → Prop) → Code → Sem PySem.Fin → List Frame → Shared → Prop) (hist : List (List Bool)) (R : Addr → Prop) (s : Shared) : End → Shared → Prop
  | .ret r, s₁ => r = .ok (.ret .none) ∧ Over CL nn hist ∧ Eff R s s₁
  | .susp v _ _ kk c _ fs, s₁ => ∃ ρ R' b, v = .ref b ∧ RowDict prog w nm nn s₁.heap b ρ ∧ ρ.length = nn ∧ ¬ R' b ∧ s.heap.get? b = none ∧ Gr R R' s s₁ ∧ (∀ x, R' x → B.get? x = none) ∧ (∀ x, R' x → ∃ o, s₁.heap.get? x = some o) ∧ ∀ s₂, On B s₂.heap → (∀ x o, R' x → s₁.heap.get? x = some o → s₂.heap.get? x = some o) → rec (hist ++ [ρ]) R' c (kk (.send .none)) fs s₂
def GenK (prog : Program) (w : World) (A : Around) (B : Heap) (CL : List (List Int)) (nn : Nat) (nm : Nat → Str) : Nat → List (List Bool) → (Addr → Prop) → Code → Sem PySem.Fin → List Frame → Shared → Prop
  | 0 => fun _ _ _ _ _ _ => False
  | k + 1 => fun hist R c t fs s => SegX (model prog w) A c t fs s (EndK prog w B CL nn nm (GenK prog w A B CL nn nm k) hist R s)
abbrev fmBody : List Stmt := dBody (meth "_find_model")
def whTest : Stmt → PySem.Expr | .While t .. => t | _ => .Name "" default
abbrev wCode (L : Addr) : Code := .whileLoop (whTest (stAt fmBody 3)) wBody [] (fmEnv L)
def KFn : Flow → Sem PySem.Fin := fun f => .pure (.done (.ret (match f with | .ret v => v | _ => .none)))
def HFn (L : Addr) : Value → Sem PySem.Fin := fun e => (leaving (fmEnv L) e).wrap (fun _ => .raise e) .raise id id
def KW (L : Addr) : Flow → Sem PySem.Fin := fun f => match f with | .next => (execs [] (fmEnv L)).wrap KFn (HFn L) id id | f => KFn f
abbrev FS (L : Addr) (p : Pos) : List Frame := [whFr (KW L) (HFn L) id id (.func fmBody (fmEnv L)) p (fmEnv L)]
def KL (L : Addr) : Flow → Sem PySem.Fin := fun f => match f with
  | .next | .cont => .pure (.again (wCode L))
  | .brk => .pure (.done .next)
  | .ret v => .pure (.done (.ret v))
def HL (L : Addr) : Value → Sem PySem.Fin := fun e => (do noteFrame e (fmEnv L); theTreesLotGoes e : Sem Unit).wrap (fun _ => .raise e) .raise id id
section
variable {M : Model} {prog : Program} {w : World} {K : Frag} {B : Heap} {A : Around} {E : Value → Shared → Prop} {s s' s₀ s₁ s₂ : Shared} {L a l x C : Addr} {m m' : Str → Option Value} {adr adr' : Role → Addr} {D D' D₁ D₂ R₀ : Addr → Prop} {S S' : SV} {cn : Str} {cs : Scope} {cd : Value} {h h' : Heap} {env : Env} {CL : List (List Int)} {hist : List (List Bool)} {r : List LV} {lv : LV} {full L₀ : List LV} {nn μ k : Nat} {sy : Addr} {nm : Nat → Str} {p : Pos}
def LoopOk (prog : Program) (w : World) (A : Around) (B : Heap) (CL : List (List Int)) (nn : Nat) (sy : Addr) (nm : Nat → Str) (L : Addr) (p : Pos) (μ : Nat) : Prop :=
  ∀ μ', μ' < μ → ∀ k hist R₀ s₀ D adr m S fv s, μ' ≤ k → HdS prog w B CL nn sy hist μ' D adr L m S fv s.heap → Gr R₀ (Dg D L) s₀ s →
    SegX (model prog w) A (wCode L) (denote table (wCode L)) (FS L p) s (EndK prog w B CL nn nm (GenK prog w A B CL nn nm k) hist R₀ s₀)
theorem endRet {v : Value} {rec : List (List Bool) → (Addr → Prop) → Code → Sem PySem.Fin → List Frame → Shared → Prop} (g : Gr R₀ (Dg D L) s₀ s) (h : RetEnd CL nn hist D L s v s') :
    SegX (model prog w) A (wCode L) (.pure (.done (.ret v))) (FS L p) s' (EndK prog w B CL nn nm rec hist R₀ s₀) := by
  obtain ⟨rfl, h2, h3⟩ := h
  refine x_back (f := .ret .none) ?_
  exact s_end prog w A _ _ s' (.ok (.ret .none)) _ rfl ⟨rfl, h2, g.eff.trans h3 g.back⟩
theorem contSeg (ih : LoopOk prog w A B CL nn sy nm L p μ) (hk : μ ≤ k + 1) (g : Gr R₀ (Dg D L) s₀ s) (h : PieceEnd prog w B CL nn sy hist μ D adr L s s') :
    SegX (model prog w) A (wCode L) (.pure (.again (wCode L))) (FS L p) s' (EndK prog w B CL nn nm (GenK prog w A B CL nn nm k) hist R₀ s₀) := by
  obtain ⟨D', adr', m', S', fv, μ', h1, h2, h3, h4⟩ := h
  exact s_again prog w A _ _ _ s' (wCode L) rfl (ih μ' h1 k hist R₀ s₀ D' adr' m' S' fv s' (by omega) h2 (g.trans h3))
theorem finSeg {t : Tok} (G : Bas w K B) (kf : KF K) (rm : Rm A 8) (ih : LoopOk prog w A B CL nn sy nm L p μ) (hk : μ ≤ k + 1) (g : Gr R₀ (Dg D L) s₀ s) (X : At prog w B nn sy D adr L m S s.heap) (f : Fst CL hist S r lv) (hm : m "lit" = some (.int lv.dec t)) (hfv : m "flip_var" = some (.bool false)) (b2 : S.hp.length + 2 * S.vs.length + 16 * μ ≤ 9000)
    (hmu : 2 * mu nn (S.lvs.drop 1) + 1 ≤ μ) (b1 : S.cls.length + μ ≤ 200) :
    SegX (model prog w) A (wCode L) ((execs (wBody.drop 1) (fmEnv L)).wrap (KL L) (HL L) id id) (FS L p) s (EndK prog w B CL nn nm (GenK prog w A B CL nn nm k) hist R₀ s₀) := by
  refine x_wrapN (wpAny_mono (fphase (μ := μ) G kf X f (rm.overW.less (by omega)) hm hfv b2 hmu b1) (fun fl s' h => ?_) fun _ _ z => z)
  cases fl with
  | next => exact contSeg ih hk g h
  | ret v => exact endRet g h
  | brk => exact h.elim
  | cont => exact h.elim
theorem turnT (G : Bas w K B) (kf : KF K) (rm : Rm A 8) (ih : LoopOk prog w A B CL nn sy nm L p μ) (hk : μ ≤ k) (H : HdS prog w B CL nn sy hist μ D adr L m S true s.heap) (g : Gr R₀ (Dg D L) s₀ s) :
    SegX (model prog w) A (wCode L) (denote table (wCode L)) (FS L p) s (EndK prog w B CL nn nm (GenK prog w A B CL nn nm k) hist R₀ s₀) := by
  obtain ⟨X, hfl, b1, b2, st⟩ := H
  obtain ⟨r, lv, f, hmu⟩ : ∃ r lv, Fst CL hist S r lv ∧ 2 * mu nn (S.lvs.drop 1) + 1 ≤ μ := st.elim (fun z => by have := z.1; cases this) fun z => z.2
  have rmw : Rm (A.over (wCode L) (FS L p)) 7 := rm.overW
  refine x_whileLoop (wpAny_isTrue_value (wpAny_Constant_bool (wpAny_truthy_bool ?_)))
  rw [if_pos rfl]
  show SegX _ _ _ ((execs (stAt wBody 0 :: wBody.drop 1) (fmEnv L)).wrap (KL L) (HL L) id id) _ _ _
  refine x_execs_cons (x_If (wpAny_isTrue_value (ldN (env := fmEnv L) X.gf.fr hfl (wpAny_truthy_bool ?_))))
  rw [if_pos rfl]
  refine x_wrapN (wpAny_execs_cons (asnG (wpAny_Constant_bool ⟨m, X.gf, fun s₁ F₁ e₁ => ?_⟩)))
  have R₁ : Rep prog w B D adr S s₁.heap := X.rep.eff e₁ fun b z => z ▸ X.gf.nL
  have h8 : 8 ≤ S.ph := by have := f.gb.ph; omega
  refine wpAny_execs_cons (asnG (curDec G kf F₁ R₁ h8 f.lvs (rmw.less (by omega)) fun s₂ t e₂ => ⟨_, F₁.no e₂, fun s₃ F₃ e₃ => ?_⟩))
  have e3 : Eff (fun b => b = L) s s₃ := (e₁.same e₂.no).same e₃
  refine wpAny_execs_nil ?_
  exact finSeg (t := t) G kf rm ih (by omega) (g.trans (Gr.loL e3)) ⟨X.rep.eff e3 fun b z => z ▸ X.gf.nL, F₃, X.n, X.n4, X.sy⟩ f updS_self (by rw [updS_ne (by decide)]; exact updS_self) b2 hmu b1
theorem turnD (G : Bas w K B) (kf : KF K) (rm : Rm A 8) (hCL : ∀ cl ∈ CL, cl ≠ []) (N : Names nm nn B sy) (ih : LoopOk prog w A B CL nn sy nm L p μ) (hk : μ ≤ k) (H : HdS prog w B CL nn sy hist μ D adr L m S false s.heap) (g : Gr R₀ (Dg D L) s₀ s) :
    SegX (model prog w) A (wCode L) (denote table (wCode L)) (FS L p) s (EndK prog w B CL nn nm (GenK prog w A B CL nn nm k) hist R₀ s₀) := by
  obtain ⟨X, hfl, b1, b2, st⟩ := H
  obtain ⟨a, hmu⟩ : Ast CL hist S ∧ 2 * mu nn (S.lvs.drop 1) ≤ μ := st.elim (fun z => z.2) fun z => by have := z.1; cases this
  have rmw : Rm (A.over (wCode L) (FS L p)) 7 := rm.overW
  have t := a.gb.tl
  have hph := a.gb.ph
  have hlev : (S.lvs.drop 1).length ≤ nn := by have := decs_le t (List.drop_sublist 1 S.lvs) a.bs.dec; rw [X.n] at this; exact this
  have hmup := mu_pos nn _ hlev
  refine x_whileLoop (wpAny_isTrue_value (wpAny_Constant_bool (wpAny_truthy_bool ?_)))
  rw [if_pos rfl]
  show SegX _ _ _ ((execs (stAt wBody 0 :: wBody.drop 1) (fmEnv L)).wrap (KL L) (HL L) id id) _ _ _
  refine x_execs_cons (x_If (wpAny_isTrue_value (ldN (env := fmEnv L) X.gf.fr hfl (wpAny_truthy_bool ?_))))
  rw [if_neg (by decide)]
  refine x_execs_cons (x_wrapN (asnG (B := B) (D := D) (adr := adr) (self_callN0 G X.gf.fr kf.S kf.fVC X.rep X.gf.self (by decide) ?_)))
  refine call_calculate G kf (frOn X.gf.fr) X.rep (rmw.less (by omega)) (by omega) t.wf.vars t.wf.n a.gb.hpl (by omega) fun s₁ lit hp' tl hc R₁ e₁ => ?_
  have F₁ := X.gf.eff e₁ (fun b z => z) X.rep.off
  refine ⟨m, F₁, fun s₂ F₂ e₂ => ?_⟩
  have R₂ := R₁.eff e₂ fun b z => z ▸ F₁.nL
  have g₂ : Gr (Dg D L) (Dg D L) s s₂ := (Gr.of e₁ fun b z => .inl z).trans (Gr.loL e₂)
  obtain ⟨i, ti, hn1⟩ := R₂.h_n1 (by show 9 ≤ S.ph; omega)
  refine x_execs_cons (x_wrapN (wpAny_AugAssign_AttributeAny (F₂.self.name (getAttr_has G F₂.fr kf.S hn1 (by decide) rfl (wpAny_Constant_int (wpAny_iadd_int ?_))))))
  refine set_num (s := { s₂ with toks := s₂.toks + 1 + 1 + 1 }) G (frOn F₂.fr) kf.S R₂ hph.2 hph.1 (.inl rfl) fun s₃ R₃ e₃ => ?_
  have e3 : Eff (fun b => b = adr .dct) s₂ s₃ := ⟨fun b o n q => e₃.keep b o n q, e₃.gens, e₃.os⟩
  have hdD : ∀ b, b = adr .dct → D b := fun b z => z ▸ R₂.sub .dct trivial
  have F₃ := F₂.eff e3 hdD R₂.off
  have g₃ : Gr (Dg D L) (Dg D L) s s₃ := g₂.trans (.of e3 fun b z => .inl (hdD b z))
  refine x_execs_cons (x_If (wpAny_isTrue_Compare1 (wpAny_Constant_int (ldN (env := fmEnv L) (s := { s₃ with toks := s₃.toks + 1 }) F₃.fr updS_self (P.eq_int (wpAny_truthy_bool ?_))))))
  have e34 : Eff No s₃ { s₃ with toks := s₃.toks + 1 } := ⟨fun b o _ q => q, rfl, rfl⟩
  cases hc with
  | none hall =>
    rw [if_pos (by decide)]
    obtain ⟨r, lv, hl⟩ : ∃ r lv, S.lvs = r ++ [lv] := (snoc_or S.lvs).resolve_left a.ne
    obtain ⟨hall', xs⟩ := a.told hCL hall hl
    have t' : Tl { S with hp := [] } := t.hpz
    have R₄ : Rep prog w B D adr { S with hp := [] } ({ s₃ with toks := s₃.toks + 1 } : Shared).heap := R₃
    have F₄ := F₃.no e34
    have NN : Names nm ({ S with hp := [] } : SV).n ({ s₃ with toks := s₃.toks + 1 } : Shared).heap ({ S with hp := [] } : SV).syms := by
      obtain ⟨⟨vals, kk, z1, z2, z3⟩, z4⟩ := N
      show Names nm S.n _ S.syms
      rw [X.n, X.sy]
      exact ⟨⟨vals, kk, F₄.fr.keep _ _ z1, z2, z3⟩, z4⟩
    show SegX _ _ _ ((execs (stAt yBody 0 :: yBody.drop 1) (fmEnv L)).wrap _ _ id id) _ _ _
    refine x_execs_cons (x_Yield rfl rfl rfl ?_)
    refine yield_dict (s := { s₃ with toks := s₃.toks + 1 }) G kf F₄ R₄ t' hall' NN rmw.hh fun s₅ b hb hrow e₅ l kk pp hres => ?_
    have F₅ := F₄.no e₅
    have R₅ := R₄.keep fun b o q => e₅.all q
    have g₅ : Gr R₀ (Dg D L) s₀ s₅ := ((g.trans g₃).trans (.no e34)).trans (.no e₅)
    have hbD : ¬ Dg D L b := by
      rintro (z | rfl | rfl)
      · obtain ⟨o, q⟩ := R₄.alive b z; rw [q] at hb; cases hb
      · obtain ⟨o, q⟩ := Fr_live F₄.fr; rw [q] at hb; cases hb
      · obtain ⟨o, q⟩ := IsCell.live F₄.cell; rw [q] at hb; cases hb
    have hBg : ∀ x, Dg D L x → B.get? x = none := by
      rintro x (z | rfl | rfl)
      · exact R₄.off x z
      · cases q : B.get? x with
        | none => rfl
        | some o => exact absurd (Heap.lt_size q) (Nat.not_lt.mpr F₄.fr.above)
      · exact F₄.Bc
    have hal₅ : ∀ x, Dg D L x → ∃ o, s₅.heap.get? x = some o := by
      rintro x (z | rfl | rfl)
      · exact R₅.alive x z
      · exact Fr_live F₅.fr
      · exact IsCell.live F₅.cell
    have hb0 : s₀.heap.get? b = none := by
      have g₄ : Gr R₀ (Dg D L) s₀ { s₃ with toks := s₃.toks + 1 } := (g.trans g₃).trans (.no e34)
      cases q : s₀.heap.get? b with
      | none => rfl
      | some o =>
        exfalso
        by_cases hr : R₀ b
        · exact hbD (g₄.up b hr)
        · have := g₄.eff.keep b o hr q; rw [hb] at this; cases this
    refine ⟨rowOf S, Dg D L, b, rfl, by rw [← X.n]; exact hrow, by unfold rowOf; simp; exact X.n, hbD, hb0, g₅, hBg, hal₅, fun s₆ o₆ keep₆ => ?_⟩
    obtain ⟨k', rfl⟩ : ∃ k', k = k' + 1 := ⟨k - 1, by omega⟩
    show SegX _ _ _ _ _ _ _
    refine hres s₆ _ ?_
    have R₆ : Rep prog w B D adr { S with hp := [] } s₆.heap := R₅.keepD fun b o hd q => keep₆ b o (.inl hd) q
    have F₆ : GF B D adr L (updS m "lit" (.int 0 tl)) s₆.heap := by
      refine ⟨⟨F₅.fr.ns.at' fun o q => keep₆ L o (.inr (.inl rfl)) q, o₆.keep, F₅.fr.above⟩, ?_, F₅.nL, F₅.nc, F₅.Bc⟩
      obtain ⟨o, q, z⟩ := F₅.cell
      exact ⟨o, keep₆ _ _ (.inr (.inr rfl)) q, z⟩
    show SegX _ _ _ ((execs (yBody.drop 1) (fmEnv L)).wrap _ _ id id) _ _ _
    refine x_wrapN (wpAny_mono (yphase (μ := μ) G kf ⟨R₆, F₆, X.n, X.n4, X.sy⟩ xs (rmw.less (by omega)) (by show 0 + 2 * S.vs.length + 16 * μ ≤ 9000; omega) hlev hmu b1) (fun fl s₇ h₇ => ?_) fun _ _ z => z)
    cases fl with
    | next => exact h₇.elim
    | brk => exact h₇.elim
    | ret v => exact endRet (.no ⟨fun _ _ _ q => q, rfl, rfl⟩) h₇
    | cont => exact contSeg ih (by omega) (.no ⟨fun _ _ _ q => q, rfl, rfl⟩) h₇
  | some h1 h2 h3 =>
    have hll := a.gb.hpl lit (h3.mem_iff.mp (by simp))
    rw [if_neg (by show ¬ ((0 : Int) == lit) = true; rw [beq_iff_eq]; exact fun z => hll.1 z.symm)]
    have hlz : S.lvs.length ≤ 100 := t.wf.lvs
    show SegX _ _ _ ((execs (eBody.drop 3) (fmEnv L)).wrap _ _ id id) _ _ _
    refine x_execs_cons (x_wrapN (appendLv (s := { s₃ with toks := s₃.toks + 1 }) (S := { S with hp := hp' }) (lit := lit) (fl := false) G kf (F₃.no e34) R₃ (by show 8 ≤ S.ph; omega) hlz (fun {Q' s₁} Fq hq' => ?_) (fun s₅ D₅ adr₅ ob dc R₅ g₅ ha₅ F₅ => ?_)))
    · exact eval_levelN G kf (frOn Fq.fr) (rmw.less (by omega)) (Nm.glo G (frOn Fq.fr) kf.gLev) (Nm.loc Fq.fr.ns updS_self) hq'
    · obtain ⟨fs, hlt, hhp, _⟩ := a.decide (nl := ⟨lit, false, [], ob, dc⟩) h1 h2 h3 rfl rfl rfl
      rw [X.n] at hlt
      have hmud := mu_decide nn (S.lvs.drop 1) ⟨lit, false, [], ob, dc⟩ hlt rfl
      have hdr : (S.lvs ++ [(⟨lit, false, [], ob, dc⟩ : LV)]).drop 1 = S.lvs.drop 1 ++ [⟨lit, false, [], ob, dc⟩] := drop_snoc a.ne
      refine finSeg (t := tl) G kf rm ih (by omega) (((g.trans g₃).trans (.no e34)).trans g₅.dg) ⟨R₅, F₅, X.n, X.n4, X.sy⟩ fs updS_self (by rw [updS_ne (by decide)]; exact hfl) ?_ ?_ b1
      · show hp'.length + 2 * S.vs.length + 16 * μ ≤ 9000; omega
      · show 2 * mu nn ((S.lvs ++ [(⟨lit, false, [], ob, dc⟩ : LV)]).drop 1) + 1 ≤ μ
        rw [hdr]; omega
theorem loopK (G : Bas w K B) (kf : KF K) (rm : Rm A 8) (hCL : ∀ cl ∈ CL, cl ≠ []) (N : Names nm nn B sy) : ∀ μ, LoopOk prog w A B CL nn sy nm L p μ := by
  intro μ
  induction μ with
  | zero => intro μ' h; omega
  | succ μ ih =>
    intro μ' h k hist R₀ s₀ D adr m S fv s hk H g
    have ih' : LoopOk prog w A B CL nn sy nm L p μ' := fun μ'' h'' => ih μ'' (by omega)
    cases fv with
    | true => exact turnT G kf rm ih' hk H g
    | false => exact turnD G kf rm hCL N ih' hk H g
end
end Dp
end
section
open PySem PySem.W PySem.Calls PyProof.Rows PySem.W.X
namespace Dp
def GsOk (prog : Program) (w : World) (A : Around) (B : Heap) (CL : List (List Int)) (nn : Nat) (nm : Nat → Str) (k : Nat) (hist : List (List Bool)) (R : Addr → Prop) (gs : GenState) (s : Shared) : Prop := match gs with
  | .fresh c => GenK prog w A B CL nn nm k hist R c (denote table c) [] s
  | .suspended kk _ c _ fs _ => GenK prog w A B CL nn nm k hist R c (kk (.send .none)) fs s
  | _ => False
section
variable {M : Model} {prog : Program} {w : World} {K : Frag} {B : Heap} {A : Around} {E : Value → Shared → Prop} {s s' s₀ s₁ s₂ : Shared} {L a l x C : Addr} {m m' : Str → Option Value} {adr adr' : Role → Addr} {D D' D₁ D₂ R R₀ : Addr → Prop} {S S' : SV} {cn : Str} {cs : Scope} {cd : Value} {h h' : Heap} {env : Env} {CL : List (List Int)} {hist : List (List Bool)} {r : List LV} {lv : LV} {full L₀ : List LV} {nn μ k : Nat} {sy : Addr} {nm : Nat → Str} {p : Pos}
theorem next_gen {a : Addr} {g : Nat} {gs : GenState} {Q : Option Value → Shared → Prop} (hh : A.handled = none) (hl : s.heap.NoLimit) (hroom : A.depth < recursionLimit) (hg : s.heap.IsGen a g) (hgs : s.gens[g]? = some gs)
    (hgo : GsOk prog w A.in1 B CL nn nm k hist R gs (s.setGen g .running))
    (hY : ∀ s₁ ρ R' b gs' k', k = k' + 1 → RowDict prog w nm nn s₁.heap b ρ → ρ.length = nn → ¬ R' b → s.heap.get? b = none → Gr R R' (s.setGen g .running) s₁ → (∀ x, R' x → B.get? x = none) → (∀ x, R' x → ∃ o, s₁.heap.get? x = some o) → (∀ s₂, On B s₂.heap → (∀ x o, R' x → s₁.heap.get? x = some o → s₂.heap.get? x = some o) → GsOk prog w A.in1 B CL nn nm k' (hist ++ [ρ]) R' gs' s₂) → Q (some (.ref b)) (s₁.setGen g gs'))
    (hR : ∀ s₁ h', Over CL nn hist → Eff R (s.setGen g .running) s₁ → (∀ b o, s₁.heap.get? b = some o → h'.get? b = some o) → Q none { s₁.setGen g .finished with heap := h' }) :
    wpAny (model prog w) A (pyNext (.ref a)) Q E s := by
  unfold pyNext
  refine wpAny_bind (wpAny_attempt (wpAny_callSpecial?_slot (name := Str.ofString "__next__") hg.typeIs slot_gen_next
    (wpAny_call_entry slot_gen_next hg.typeIs entry_gen_next ?_ (args_gen_next _))))
  show wpAny _ _ (Builtin.Generator.genWake (.ref a) (.send .none)) _ _ s
  unfold Builtin.Generator.genWake
  refine wpAny_bind (wpAny_holding (wpAny_genNumber hg (wpAny_bind (wpAny_genState hgs ?_))))
  obtain ⟨k', rfl⟩ : ∃ k', k = k' + 1 := by
    cases k with
    | zero => cases gs <;> exact hgo.elim
    | succ k' => exact ⟨k', rfl⟩
  cases gs with
  | running => exact hgo.elim
  | finished => exact hgo.elim
  | fresh c₀ =>
    refine wpAny_bind (wpAny_roomToWake hl hroom ?_)
    show wpAny _ _ (.resume g (.send .none) [] _) _ _ s
    refine wake_any _ prog w hgs (.inl ⟨rfl, rfl, rfl, rfl⟩) (fun Γ => Γ.In A.in1) (fun _ h => h) (SegX.mono hgo fun e s₁ he => ?_)
    cases e with
    | ret rr =>
      obtain ⟨rfl, ov, ef⟩ := he
      show wpAny (model prog w) A.in1 (newExc (.type "StopIteration") [] >>= _) (fun a s' => ∃ v, a = Fin.done (Flow.ret v) ∧ _) (fun e s' => _) _
      refine wpAny_bind ?_
      simp only [newExc, newTuple]
      refine wpAny_bind (wpAny_newObj_type ?_ (by size_fits))
      refine wpAny_bind (m := firstArgMember _ _) (wpAny_of_eq (a := Value.none) (by first | rfl | (simp only [firstArgMember]; rfl)) ?_)
      refine wpAny_newObj_type ?_ (by size_fits)
      simp only [raiseNew]
      refine wpAny_bind (wpAny_bind (wpAny_handled ?_))
      rw [show A.in1.handled = none from hh]
      refine wpAny_throw ?_
      refine wpAny_bind (wpAny_isInstance (T := "StopIteration") (b := true) ⟨_, Heap.get?_push_size _ rfl, rfl⟩ isSubtype_stop ?_)
      exact wpAny_pure (hR s₁ _ ov ef fun b o hb => Heap.get?_push_of_some _ (Heap.get?_push_of_some _ hb))
    | susp v gg ll kk' c' pp fs' =>
      obtain ⟨ρ, R', b, rfl, h1, h2, h3, h4, h5, h6, h8, h7⟩ := he
      show wpAny (model prog w) A.in1 (ret (.ref b)) (fun a s' => ∃ v, a = Fin.done (Flow.ret v) ∧ _) (fun e s' => _) _
      exact wpAny_pure ⟨_, rfl, wpAny_pure (hY s₁ ρ R' b (End.susp (.ref b) gg ll kk' c' pp fs').genState k' rfl h1 h2 h3 h4 h5 h6 h8 fun s₂ o k => h7 s₂ o k)⟩
  | suspended kk l₀ c₀ p₀ fs₀ cl =>
    refine wpAny_bind (wpAny_roomToWake hl hroom ?_)
    show wpAny _ _ (.resume g (.send .none) [] _) _ _ s
    refine wake_any _ prog w hgs (.inr ⟨kk, l₀, p₀, cl, rfl, rfl⟩) (fun Γ => Γ.In A.in1) (fun _ h => h) (SegX.mono hgo fun e s₁ he => ?_)
    cases e with
    | ret rr =>
      obtain ⟨rfl, ov, ef⟩ := he
      show wpAny (model prog w) A.in1 (newExc (.type "StopIteration") [] >>= _) (fun a s' => ∃ v, a = Fin.done (Flow.ret v) ∧ _) (fun e s' => _) _
      refine wpAny_bind ?_
      simp only [newExc, newTuple]
      refine wpAny_bind (wpAny_newObj_type ?_ (by size_fits))
      refine wpAny_bind (m := firstArgMember _ _) (wpAny_of_eq (a := Value.none) (by first | rfl | (simp only [firstArgMember]; rfl)) ?_)
      refine wpAny_newObj_type ?_ (by size_fits)
      simp only [raiseNew]
      refine wpAny_bind (wpAny_bind (wpAny_handled ?_))
      rw [show A.in1.handled = none from hh]
      refine wpAny_throw ?_
      refine wpAny_bind (wpAny_isInstance (T := "StopIteration") (b := true) ⟨_, Heap.get?_push_size _ rfl, rfl⟩ isSubtype_stop ?_)
      exact wpAny_pure (hR s₁ _ ov ef fun b o hb => Heap.get?_push_of_some _ (Heap.get?_push_of_some _ hb))
    | susp v gg ll kk' c' pp fs' =>
      obtain ⟨ρ, R', b, rfl, h1, h2, h3, h4, h5, h6, h8, h7⟩ := he
      show wpAny (model prog w) A.in1 (ret (.ref b)) (fun a s' => ∃ v, a = Fin.done (Flow.ret v) ∧ _) (fun e s' => _) _
      exact wpAny_pure ⟨_, rfl, wpAny_pure (hY s₁ ρ R' b (End.susp (.ref b) gg ll kk' c' pp fs').genState k' rfl h1 h2 h3 h4 h5 h6 h8 fun s₂ o k => h7 s₂ o k)⟩
end
end Dp
end
section
open PySem PySem.W PySem.Calls PyProof.Rows PySem.W.X
namespace Dp
section
variable {M : Model} {prog : Program} {w : World} {K : Frag} {B : Heap} {A : Around} {E : Value → Shared → Prop} {s s' s₀ s₁ s₂ : Shared} {L a l x C : Addr} {m m' : Str → Option Value} {adr adr' : Role → Addr} {D D' D₁ D₂ R R₀ : Addr → Prop} {S S' : SV} {cn : Str} {cs : Scope} {cd : Value} {h h' : Heap} {env : Env} {CL : List (List Int)} {hist : List (List Bool)} {r : List LV} {lv : LV} {full L₀ : List LV} {nn μ k : Nat} {sy : Addr} {nm : Nat → Str} {p : Pos}
theorem pow3_le {n : Nat} (h : n ≤ 4) : 3 ^ n ≤ 81 := by
  have : n = 0 ∨ n = 1 ∨ n = 2 ∨ n = 3 ∨ n = 4 := by omega
  rcases this with rfl | rfl | rfl | rfl | rfl <;> decide
theorem genStart (G : Bas w K B) (kf : KF K) (rm : Rm A 9) (hCL : ∀ cl ∈ CL, cl ≠ []) (N : Names nm nn B sy) (X : At prog w B nn sy D adr L m S s.heap) (i : Ini CL S lv) (hcz : S.cls.length ≤ 30) (hhz : S.hp.length ≤ 100) :
    GenK prog w A B CL nn nm 200 [] (Dg D L) (.func fmBody (fmEnv L)) (denote table (.func fmBody (fmEnv L))) [] s := by
  show SegX (model prog w) A _ _ _ _ (EndK prog w B CL nn nm (GenK prog w A B CL nn nm 199) [] (Dg D L) s)
  have rmf : Rm (A.over (.func fmBody (fmEnv L)) []) 8 := rm.overF
  have h3 := pow3_le X.n4
  refine x_func ?_
  show SegX _ _ _ ((execs (stAt fmBody 0 :: stAt fmBody 1 :: stAt fmBody 2 :: fmBody.drop 3) (fmEnv L)).wrap KFn (HFn L) id id) _ _ _
  refine x_execs_cons (x_wrapN (asnG (wpAny_Constant_bool ⟨m, X.gf, fun s₁ F₁ e₁ => ?_⟩)))
  have R₁ := X.rep.eff e₁ fun b z => z ▸ X.gf.nL
  obtain ⟨⟨k, U⟩, hup⟩ := i.up (by omega)
  refine x_execs_cons (x_wrapN (wpAny_Expr (self_callN0 G F₁.fr kf.S kf.fSi R₁ F₁.self (by decide) ?_)))
  refine call_simplify G kf (frOn F₁.fr) R₁ U (rmf.less (by omega)) fun s₂ D₂ adr₂ S₂ c hx R₂ g₂ ha₂ => ?_
  obtain ⟨k1, k2, k3, k4, k5, ⟨lv2, hl2⟩, out⟩ := hup c S₂ hx
  have F₂ := F₁.gr g₂ R₁.off ha₂
  have gg : Gr (Dg D L) (Dg D₂ L) s s₂ := (Gr.loL e₁).trans g₂.dg
  refine x_execs_cons (x_If (wpAny_isTrue_value (attrN G F₂.fr kf.S F₂.self R₂.h_unsat (by decide) rfl (wpAny_truthy_bool ?_))))
  have e23 : Eff No s₂ { s₂ with toks := s₂.toks + 1 } := ⟨fun b o _ q => q, rfl, rfl⟩
  have g3 := gg.trans (.no e23)
  rcases out with ⟨rfl, hu, a2⟩ | ⟨rfl, hu, hno⟩
  · rw [hu, if_neg (by decide)]
    have hv8 := vs_le8 a2.gb.tl (by rw [k3, X.n]; exact X.n4)
    show SegX _ _ _ ((execs (stAt fmBody 3 :: []) (fmEnv L)).wrap KFn (HFn L) id id) _ _ _
    refine x_execs_cons (x_While fun p => ?_)
    refine loopK (p := p) G kf (rm.less (by omega)) hCL N (2 * 3 ^ nn + 1) (2 * 3 ^ nn) (by omega) 199 [] (Dg D L) s D₂ adr₂ (updS m "flip_var" (.bool false)) S₂ false { s₂ with toks := s₂.toks + 1 } (by omega) ?_ g3
    refine ⟨⟨R₂, F₂.no e23, k3.trans X.n, X.n4, k5.trans X.sy⟩, updS_self, by rw [k1]; omega, by rw [k2]; omega, .inl ⟨rfl, a2, ?_⟩⟩
    rw [hl2]; show 2 * mu nn [] ≤ _; unfold mu; omega
  · rw [hu, if_pos rfl]
    refine x_wrapN (wpAny_execs_cons (wpAny_Return_none ?_))
    refine s_end prog w A _ _ _ (.ok (.ret .none)) _ rfl ⟨rfl, ⟨List.nodup_nil, fun ρ => ⟨fun z => absurd (X.n ▸ z) (hno ρ), fun z => (nomatch z)⟩⟩, g3.eff⟩
end
end Dp
end
section
open PySem PySem.W PySem.Calls PyProof.Rows PySem.W.X
namespace Dp
section
variable {M : Model} {prog : Program} {w : World} {K : Frag} {B : Heap} {A : Around} {E : Value → Shared → Prop} {s s' s₀ s₁ s₂ : Shared} {L a l x C : Addr} {m m' : Str → Option Value} {adr adr' : Role → Addr} {D D' D₁ D₂ R R₀ : Addr → Prop} {S S' : SV} {h h' : Heap} {env : Env}
theorem call_find_model {Rr : Result → Shared → Prop} (G : Bas w K B) (kf : KF K) (o : On B s.heap) (R : Rep prog w B D adr S s.heap) (rm : Rm A 1)
    (hq : ∀ s' L gb, s'.gens = s.gens.push (.fresh (.func fmBody (fmEnv L))) → s'.heap.IsGen gb s.gens.size → (∀ b o, s.heap.get? b = some o → s'.heap.get? b = some o) → s'.os = s.os → s.heap.get? gb = none → gb ≠ L → gb ≠ L + 1 → s.heap.get? L = none → s.heap.get? (L + 1) = none → GF B D adr L (fun _ => none) s'.heap → Rr (.ok (.ret (.ref gb))) s') :
    codeAny (model prog w) A (.call (.ref 93) ⟨[.ref (adr .slf)], []⟩) Rr s := by
  obtain ⟨pm, ho⟩ := kf.fFM.fn.at_
  have hin := G.in o
  refine codeAny_call_generator (fd := fdOf (meth "_find_model") "_find_model" ("SATSolver." ++ "_find_model") .none pm 92) (body := fmBody) rm.room (hin _ _ ho) rfl rfl rfl rfl (codeRec_of hin kf.fFM.fn.code) ?_
  refine (BindsTo.of_eq (binds := [("self", .ref (adr .slf))]) rfl) _ _ _ _ ?_
  refine wpAny_newFunctionEnv_cells rfl (fun x hx => ?_) fun env he s₁ x => ?_
  · rw [List.mem_singleton] at hx; subst hx; exact .inr ⟨rfl, rfl⟩
  have hL0 : s.heap.get? s.heap.objs.size = none := new_none
  have hL1 : s.heap.get? (s.heap.objs.size + 1) = none := by
    cases q : s.heap.get? (s.heap.objs.size + 1) with
    | none => rfl
    | some ob => exact absurd (Heap.lt_size q) (Nat.not_lt.mpr (Nat.le_succ _))
  generalize hL : s.heap.objs.size = L at hL0 hL1 he
  have henv : env = fmEnv L := he
  subst henv
  have hk := x.toInCall.keep
  obtain ⟨h₁, tk, rfl, _⟩ := x.done
  refine ⟨(G.nolimit o).keeps hk, ?_⟩
  have hns := x.toInCall.ns
  have hcell := x.cell "self" (L + 1) rfl
  obtain ⟨oc, hc1, hc2⟩ := hcell
  obtain ⟨on, es, ep, hn1, _⟩ := id hns
  have hlt1 : L + 1 < h₁.objs.size := Heap.lt_size hc1
  have hgb : s.heap.get? h₁.objs.size = none := by
    cases q : s.heap.get? h₁.objs.size with
    | none => rfl
    | some ob => exact absurd (Heap.lt_size (hk _ _ q)) (Nat.lt_irrefl _)
  have kp : ∀ b o', s.heap.get? b = some o' → (h₁.push { cls := .type "generator", data := .fields #[.int s.gens.size 0, .str "_find_model" tk, .str ("SATSolver." ++ "_find_model") (tk + 1)] }).get? b = some o' := fun b o' q => Heap.get?_push_of_some _ (hk b o' q)
  refine hq _ L h₁.objs.size rfl ⟨_, _, _, Heap.get?_push_size _ rfl, rfl, rfl, rfl⟩ kp rfl hgb (Nat.ne_of_gt (Nat.lt_of_succ_lt hlt1)) (Nat.ne_of_gt hlt1) hL0 hL1 ⟨⟨?_, fun b o' q => kp b o' (o.keep b o' q), by rw [← hL]; exact o.size⟩, ⟨oc, Heap.get?_push_of_some _ hc1, hc2⟩, R.new hL0, R.new hL1, o.none hL1⟩
  exact hns.keeps fun b o q => Heap.get?_push_of_some _ q
end
end Dp
end
section
open PySem PySem.W PySem.Calls PyProof.Rows
namespace Dp
section
variable {M : Model} {prog : Program} {w : World} {K : Frag} {B : Heap} {A : Around} {E : Value → Shared → Prop} {s s' s₀ s₁ s₂ : Shared} {L a l x C : Addr} {m m' : Str → Option Value} {adr adr' : Role → Addr} {D D' D₁ D₂ R R₀ own : Addr → Prop} {S S' : SV} {h h' : Heap} {env : Env}
theorem RoleOk.readr {r : Role} {o : Obj} (hr : S.live r) (hn : r ≠ .dct) (k : ∀ q, S.live q → adr' q = adr q) (x : RoleOk prog w D own adr h S r o) : RoleOk prog w D own adr' h S r o := by
  cases r <;> first | exact x | exact absurd rfl hn | skip
  · show o = instObj 207 (adr' .dct)
    rw [k .dct trivial]; exact x
  · obtain ⟨kvs, d, e, f⟩ := x
    refine ⟨kvs, d, e, fun kv hkv => ?_⟩
    have h1 : kv.2 = .ref (adr (.sent kv.1)) := f kv hkv
    show kv.2 = .ref (adr' (.sent kv.1))
    rw [h1, k (.sent kv.1) ⟨hr, mem_litsOf.mp (by rw [← e]; exact List.mem_map_of_mem hkv)⟩]
  · obtain ⟨n, e, f⟩ := x
    refine ⟨n, e, fun i lv q => ?_⟩
    have hi : i < S.lvs.length := by rcases Nat.lt_or_ge i S.lvs.length with z | z; exact z; rw [List.getElem?_eq_none z] at q; cases q
    rw [k (.lset i) ⟨hr, hi⟩]; exact f i lv q
theorem Rep.grow {N : Role → Prop} {b : Role → Addr} {X : Addr → Prop} {od : Obj} (R : Rep prog w B D adr S h) (sb : Heap.SameBut (adr .dct) h h') (ho : h'.get? (adr .dct) = some od)
    (hl : ∀ r, S'.live r ↔ S.live r ∨ N r) (hN : ∀ r, N r → ¬ S.live r) (hA1 : ∀ r, S.live r → adr' r = adr r) (hA2 : ∀ r, N r → adr' r = b r)
    (hb : ∀ r, N r → ¬ D (b r) ∧ B.get? (b r) = none ∧ b r ≠ adr .dct) (hinj : ∀ r r', N r → N r' → b r = b r' → r = r')
    (hX : ∀ x, X x → ¬ D x ∧ B.get? x = none ∧ (∃ o, h.get? x = some o) ∧ ∀ r, N r → b r ≠ x) (hy : S'.syms = S.syms)
    (hd : RoleOk prog w (fun x => D x ∨ (∃ r, N r ∧ b r = x) ∨ X x) (ownOf adr' S') adr' h' S' .dct od)
    (hnew : ∀ r, N r → ∃ o, h.get? (b r) = some o ∧ (h'.get? (b r) = some o → RoleOk prog w (fun x => D x ∨ (∃ r, N r ∧ b r = x) ∨ X x) (ownOf adr' S') adr' h' S' r o))
    (hs : ∀ r o, S.live r → r ≠ .dct → RoleOk prog w (fun x => D x ∨ (∃ r, N r ∧ b r = x) ∨ X x) (ownOf adr' S') adr' h' S r o → RoleOk prog w (fun x => D x ∨ (∃ r, N r ∧ b r = x) ∨ X x) (ownOf adr' S') adr' h' S' r o) :
    Rep prog w B (fun x => D x ∨ (∃ r, N r ∧ b r = x) ∨ X x) adr' S' h' := by
  have hown : ∀ x, ownOf adr' S' x → ownOf adr S x ∨ ∃ r, N r ∧ b r = x := by
    rintro x ⟨q, h1, h2⟩
    rcases (hl q).mp h1 with z | z
    · exact .inl ⟨q, z, by rw [← hA1 q z]; exact h2⟩
    · exact .inr ⟨q, z, by rw [← hA2 q z]; exact h2⟩
  have hfz : ∀ a o, Fz D (ownOf adr S) h a o → Fz (fun x => D x ∨ (∃ r, N r ∧ b r = x) ∨ X x) (ownOf adr' S') h' a o := fun a o z =>
    ⟨.inl z.1, fun y => (hown a y).elim z.2.1 fun ⟨r, q, e⟩ => (hb r q).1 (e ▸ z.1), (sb.2 a fun y => z.2.1 ⟨.dct, trivial, y.symm⟩).trans z.2.2⟩
  have hdd : adr' .dct = adr .dct := hA1 .dct trivial
  refine ⟨fun q hq => ?_, fun q q' h1 h2 e => ?_, fun q hq => ?_, fun x hx => ?_, fun x hx => ?_, by rw [hy]; exact R.syms⟩
  · rcases (hl q).mp hq with z | z
    · rw [hA1 q z]
      by_cases e : q = .dct
      · subst e; exact ⟨od, ho, hd⟩
      · obtain ⟨o, h1, h2⟩ := R.ok q z
        exact ⟨o, (sb.2 _ fun y => e (R.inj q .dct z trivial y)).trans h1, hs q o z e (RoleOk.readr z e hA1 (RoleOk.fz hfz h2))⟩
    · rw [hA2 q z]
      obtain ⟨o, h1, h2⟩ := hnew q z
      have := (sb.2 _ (hb q z).2.2).trans h1
      exact ⟨o, this, h2 this⟩
  · rcases (hl q).mp h1 with z | z <;> rcases (hl q').mp h2 with z' | z'
    · rw [hA1 q z, hA1 q' z'] at e; exact R.inj q q' z z' e
    · rw [hA1 q z, hA2 q' z'] at e; exact absurd (e ▸ R.sub q z) (hb q' z').1
    · rw [hA2 q z, hA1 q' z'] at e; exact absurd (e.symm ▸ R.sub q' z') (hb q z).1
    · rw [hA2 q z, hA2 q' z'] at e; exact hinj q q' z z' e
  · rcases (hl q).mp hq with z | z
    · rw [hA1 q z]; exact .inl (R.sub q z)
    · rw [hA2 q z]; exact .inr (.inl ⟨q, z, rfl⟩)
  · rcases hx with hx | ⟨r, hr, rfl⟩ | hx
    · exact R.off x hx
    · exact (hb r hr).2.1
    · exact (hX x hx).2.1
  · by_cases e : x = adr .dct
    · subst e; exact ⟨_, ho⟩
    · rcases hx with hx | ⟨r, hr, rfl⟩ | hx
      · obtain ⟨o, q⟩ := R.alive x hx; exact ⟨o, (sb.2 x e).trans q⟩
      · obtain ⟨o, q, _⟩ := hnew r hr; exact ⟨o, (sb.2 _ e).trans q⟩
      · obtain ⟨_, _, ⟨o, q⟩, _⟩ := hX x hx; exact ⟨o, (sb.2 _ e).trans q⟩
end
end Dp
end
section
open PySem PySem.W PySem.Calls PyProof.Rows
namespace Dp
theorem compTurn_two0 (elt t0 i0 t1 i1 : PySem.Expr) (scope : Scope) (pos : Pos) (it acc : Value) (env : Env) :
    compTurn (.ListComp elt [⟨t0, i0, [], 0⟩, ⟨t1, i1, [], 0⟩] scope pos) 0 it acc env = (do
      standAt i0.pos
      match ← pyNext it with
      | none => pure (.done .next)
      | some v =>
        letOwnedTupleGo t0 it v
        assign t0 env v
        let x ← eval i1 env
        standAt i1.pos
        let x ← foldedSetIterable i1 env x
        let it' ← holding [x] (pyIter x)
        let _ ← runOwn (.compStart (.ListComp elt [⟨t0, i0, [], 0⟩, ⟨t1, i1, [], 0⟩] scope pos) 1 it' acc env) env
        again (.compLoop (.ListComp elt [⟨t0, i0, [], 0⟩, ⟨t1, i1, [], 0⟩] scope pos) 0 it acc env)) := by rfl
theorem compTurn_two1 (elt t0 i0 t1 i1 : PySem.Expr) (scope : Scope) (pos : Pos) (it acc : Value) (env : Env) :
    compTurn (.ListComp elt [⟨t0, i0, [], 0⟩, ⟨t1, i1, [], 0⟩] scope pos) 1 it acc env = (do
      standAt i1.pos
      match ← pyNext it with
      | none => pure (.done .next)
      | some v =>
        letOwnedTupleGo t1 it v
        assign t1 env v
        (do let _ ← call (.builtin "list.append") [acc, ← eval elt env])
        again (.compLoop (.ListComp elt [⟨t0, i0, [], 0⟩, ⟨t1, i1, [], 0⟩] scope pos) 1 it acc env)) := by rfl
section
variable {prog : Program} {w : World} {A : Around} {E : Value → Shared → Prop} {R : Result → Shared → Prop} {s : Shared} {env : Env} {elt t0 i0 t1 i1 : PySem.Expr} {scope : Scope} {pos : Pos} {it acc : Value}
theorem two_start (h0 : codeAny (model prog w) A (.compLoop (.ListComp elt [⟨t0, i0, [], 0⟩, ⟨t1, i1, [], 0⟩] scope pos) 1 it acc env) R s)
    (h : wpAny (model prog w) A (pyIter it) (fun it' s' => codeAny (model prog w) A (.compLoop (.ListComp elt [⟨t0, i0, [], 0⟩, ⟨t1, i1, [], 0⟩] scope pos) 1 it' acc env) R s') (fun _ _ => False) s) :
    codeAny (model prog w) A (.compStart (.ListComp elt [⟨t0, i0, [], 0⟩, ⟨t1, i1, [], 0⟩] scope pos) 1 it acc env) R s := by
  refine codeAny_of_tree ?_
  show wpAny _ _ ((compStart (.ListComp elt [⟨t0, i0, [], 0⟩, ⟨t1, i1, [], 0⟩] scope pos) 1 it acc env).onRaise (fun x => do noteFrame x env; standAt theWindowsPlace)) _ _ s
  refine wpAny_notedAt ?_
  unfold compStart
  show wpAny _ _ (ask >>= _) _ _ s
  refine wpAny_bind (wpAny_askSetting (wpAny_ite ?_))
  split
  · first
      | exact wpAny_bind (wpAny_pure (wpAny_pure (And.intro rfl h0)))
      | exact wpAny_pure (And.intro rfl h0)
  · refine wpAny_bind (wpAny_rule ?_)
    show wpAny _ _ (standAt i1.pos >>= _) _ _ s
    exact wpAny_bind (wpAny_standAt (wpAny_bind (wpAny_mono h (fun it' s' h' => wpAny_pure (And.intro rfl h')) fun _ _ x => x.elim)))
theorem two_inner (I : Nat → Shared → Prop)
    (turn : ∀ n s, I n s → wpAny (model prog w) A (pyNext it) (fun r s₁ => match r with
      | none => R (.ok .next) s₁
      | some v => wpAny (model prog w) A (assign t1 env v) (fun _ s₂ => wpAny (model prog w) A (eval elt env) (fun x s₄ =>
              wpAny (model prog w) A (call (.builtin "list.append") [acc, x]) (fun _ s₅ => ∃ m, m < n ∧ I m s₅) (fun _ _ => False) s₄) (fun _ _ => False) s₂) (fun _ _ => False) s₁) (fun _ _ => False) s)
    (n : Nat) (h : I n s) (ht : ∀ v, letOwnedTupleGo t1 it v = pure () := by intro _; rfl) :
    codeAny (model prog w) A (.compLoop (.ListComp elt [⟨t0, i0, [], 0⟩, ⟨t1, i1, [], 0⟩] scope pos) 1 it acc env) R s := by
  refine codeAny_loop rfl I (fun n s hI => ?_) n h
  show wpAny _ A ((compTurn (.ListComp elt [⟨t0, i0, [], 0⟩, ⟨t1, i1, [], 0⟩] scope pos) 1 it acc env).onRaise (fun x => do noteFrame x env; theTreesLotGoes x)) _ _ s
  refine wpAny_noted ?_
  rw [compTurn_two1]
  refine wpAny_bind (wpAny_standAt (wpAny_bind (wpAny_mono (noexc (turn n s hI)) (fun r s₁ h₁ => ?_) fun _ _ h' => h')))
  cases r with
  | none => exact wpAny_pure h₁
  | some v =>
    refine wpAny_bind (wpAny_of_eq (ht v) ?_)
    refine wpAny_bind (wpAny_mono (noexc h₁) (fun _ s₂ h₂ => ?_) fun _ _ h' => h')
    exact wpAny_bind (wpAny_bind (wpAny_mono (noexc h₂) (fun x s₄ h₄ => wpAny_bind (wpAny_mono (noexc h₄) (fun _ s₅ h₅ => wpAny_pure (wpAny_pure ⟨rfl, h₅⟩)) fun _ _ h' => h')) fun _ _ h' => h'))
theorem two_outer (I : Nat → Shared → Prop) (hs : ∀ x, foldedSetIterable i1 env x = pure x)
    (turn : ∀ n s, I n s → wpAny (model prog w) A (pyNext it) (fun r s₁ => match r with
      | none => R (.ok .next) s₁
      | some v => wpAny (model prog w) A (assign t0 env v) (fun _ s₂ => wpAny (model prog w) A (eval i1 env) (fun x s₃ => wpAny (model prog w) A (pyIter x) (fun it' s₄ =>
          codeAny (model prog w) A (.compStart (.ListComp elt [⟨t0, i0, [], 0⟩, ⟨t1, i1, [], 0⟩] scope pos) 1 it' acc env) (fun r s₅ => match r with | .ok _ => ∃ m, m < n ∧ I m s₅ | .error _ => False) s₄) (fun _ _ => False) s₃) (fun _ _ => False) s₂) (fun _ _ => False) s₁) (fun _ _ => False) s)
    (n : Nat) (h : I n s) (ht : ∀ v, letOwnedTupleGo t0 it v = pure () := by intro _; rfl) :
    codeAny (model prog w) A (.compLoop (.ListComp elt [⟨t0, i0, [], 0⟩, ⟨t1, i1, [], 0⟩] scope pos) 0 it acc env) R s := by
  refine codeAny_loop rfl I (fun n s hI => ?_) n h
  show wpAny _ A ((compTurn (.ListComp elt [⟨t0, i0, [], 0⟩, ⟨t1, i1, [], 0⟩] scope pos) 0 it acc env).onRaise (fun x => do noteFrame x env; theTreesLotGoes x)) _ _ s
  refine wpAny_noted ?_
  rw [compTurn_two0]
  refine wpAny_bind (wpAny_standAt (wpAny_bind (wpAny_mono (noexc (turn n s hI)) (fun r s₁ h₁ => ?_) fun _ _ h' => h')))
  cases r with
  | none => exact wpAny_pure h₁
  | some v =>
    refine wpAny_bind (wpAny_of_eq (ht v) ?_)
    refine wpAny_bind (wpAny_mono (noexc h₁) (fun _ s₂ h₂ => ?_) fun _ _ h' => h')
    refine wpAny_bind (wpAny_mono (noexc h₂) (fun x s₃ h₃ => ?_) fun _ _ h' => h')
    refine wpAny_bind (wpAny_standAt (wpAny_bind (wpAny_of_eq (hs x) ?_)))
    refine wpAny_bind (wpAny_holding (wpAny_mono (noexc h₃) (fun it' s₄ h₄ => ?_) fun _ _ h' => h'))
    refine wpAny_bind (wpAny_runOwn (codeAny_mono h₄ fun r s₅ h₅ => ?_))
    cases r with
    | ok f => exact wpAny_pure ⟨rfl, h₅⟩
    | error e => exact h₅.elim
end
end Dp
end
section
open PySem PySem.W PySem.Calls PyProof.Rows
namespace Dp
theorem range_size {lo hi : Int} : Builtin.Range.rangeSize lo hi 1 = ((hi - lo).toNat : Int) := by
  rw [rangeSize_one]; split <;> omega
theorem fitsLong {x : Int} (h1 : -300000 ≤ x) (h2 : x ≤ 300000) : Builtin.Range.rangeFitsLong x = true := by
  unfold Builtin.Range.rangeFitsLong
  simp
  omega
theorem range_small {lo hi : Int} (h1 : -100000 ≤ lo) (h2 : hi ≤ 100000) (h3 : lo ≤ 100000) (h4 : -100000 ≤ hi) : Builtin.Range.small lo hi 1 = true := by
  unfold Builtin.Range.small
  rw [range_size]
  rw [fitsLong (x := lo) (by omega) (by omega), fitsLong (x := hi) (by omega) (by omega), fitsLong (x := 1) (by omega) (by omega), fitsLong (x := ((hi - lo).toNat : Int)) (by omega) (by omega), if_pos (by decide), fitsLong (x := hi + (1 - 1)) (by omega) (by omega)]
  simp
section
variable {prog : Program} {w : World} {K : Frag} {B : Heap} {A : Around} {E : Value → Shared → Prop} {s s' s₁ s₂ : Shared} {L a l x C : Addr} {m m' : Str → Option Value} {D D' : Addr → Prop} {h h' : Heap} {env : Env} {α : Type} {V : α → Value → Prop}
theorem Iter.tuple {it l : Addr} {vs : List Value} {xs : List α} (hne : it ≠ l) (hv : F2 V xs vs) : Iter prog w V [it] [l] it (fun r h => ∃ i, r = xs.drop i ∧ h.IsTupleIter it l i ∧ h.get? l = some (tupO vs.toArray)) where
  mem := by simp
  live := by
    rintro r h ⟨i, _, ⟨o, ho, _⟩, _⟩ b hb
    rw [List.mem_singleton] at hb; subst hb; exact ⟨o, ho⟩
  stab := by
    rintro r h h' ⟨i, e, ⟨o, ho, z⟩, b⟩ k
    exact ⟨i, e, ⟨o, k it _ (.inl (by simp)) ho, z⟩, k l _ (.inr (by simp)) b⟩
  item := by
    rintro A E s x r Q ⟨i, e, a, b⟩ hq
    obtain ⟨e1, e2⟩ := cons_drop e.symm
    obtain ⟨v, hv1, hv2⟩ := hv.get' e1
    refine wpAny_pyNext_tuple_item a ⟨_, b, rfl, _, rfl⟩ (by rw [List.getElem?_toArray]; exact hv1) fun h' a' sb => hq h' v s.toks sb hv2 ⟨i + 1, e2.symm, a', (sb.2 l (Ne.symm hne)).trans b⟩
  self := by
    rintro A E s r Q ⟨i, e, a, b⟩ q
    exact wpAny_pyIter_tupleiter a q
  fin := by
    rintro A E s Q hh ⟨i, e, a, b⟩ hq
    refine wpAny_pyNext_tuple_end hh a ⟨_, b, rfl, _, rfl⟩ ?_ fun h' ex => hq h' ex
    have : xs.length ≤ i := List.drop_eq_nil_iff.mp e.symm
    rw [List.getElem?_toArray, List.getElem?_eq_none (by rw [← hv.length]; exact this)]
theorem iter_tuple {l : Addr} {vs : List Value} {xs : List α} {Q : Value → Shared → Prop} (hl : s.heap.get? l = some (tupO vs.toArray)) (hv : F2 V xs vs)
    (hq : ∀ s' it T, Eff No s s' → s.heap.get? it = none → Iter prog w V [it] [l] it T → T xs s'.heap → Q (.ref it) s') : wpAny (model prog w) A (pyIter (.ref l)) Q E s := by
  have hne : s.heap.objs.size ≠ l := fun z => Nat.lt_irrefl _ (z ▸ Heap.lt_size hl)
  refine wpAny_pyIter_tuple ⟨_, hl, rfl, _, rfl⟩ (hq _ s.heap.objs.size _ ⟨fun b o _ e => Heap.get?_push_of_some _ e, rfl, rfl⟩ new_none (Iter.tuple hne hv) ⟨0, rfl, ⟨_, Heap.get?_push_size _ rfl, rfl, rfl⟩, Heap.get?_push_of_some _ hl⟩)
theorem call_range2 {lo hi : Int} {t u : Tok} {Q : Value → Shared → Prop} (hq : ∀ s' r t u v, s.heap.get? r = none → IsRange s'.heap r lo hi 1 t u v → Eff No s s' → Q (.ref r) s') : wpAny (model prog w) A (call (.type "range") [.int lo t, .int hi u]) Q E s :=
  call_range_2 (hq _ s.heap.objs.size t u s.toks new_none (IsRange.new s.heap lo hi 1 t u s.toks) ⟨fun b o _ e => Heap.get?_push_of_some _ e, rfl, rfl⟩)
theorem call_range1 {hi : Int} {t : Tok} {Q : Value → Shared → Prop} (hq : ∀ s' r t u v, s.heap.get? r = none → IsRange s'.heap r 0 hi 1 t u v → Eff No s s' → Q (.ref r) s') : wpAny (model prog w) A (call (.type "range") [.int hi t]) Q E s :=
  call_range_1 (hq _ s.heap.objs.size s.toks t (s.toks + 1) new_none (IsRange.new s.heap 0 hi 1 s.toks t (s.toks + 1)) ⟨fun b o _ e => Heap.get?_push_of_some _ e, rfl, rfl⟩)
theorem iter_rangeN {r : Addr} {lo hi : Int} {t u v : Tok} {Q : Value → Shared → Prop} (hr : IsRange s.heap r lo hi 1 t u v) (hb : -100000 ≤ lo ∧ hi ≤ 100000 ∧ lo ≤ 100000 ∧ -100000 ≤ hi)
    (hq : ∀ s' it T, Eff No s s' → s.heap.get? it = none → Iter prog w IsInt [it] [] it T → T (upFrom lo (hi - lo).toNat) s'.heap → Q (.ref it) s') : wpAny (model prog w) A (pyIter (.ref r)) Q E s :=
  iter_range hr (range_small hb.1 hb.2.1 hb.2.2.1 hb.2.2.2) range_size hq
end
end Dp
end
section
open PySem PySem.W PySem.Calls PyProof.Rows
namespace Dp
def asgVal : Stmt → PySem.Expr | .Assign _ v _ => v | _ => .Name "" default
def ivBody : List Stmt := dBody (meth "_initialize_variables")
def litScope : Scope := dcScope (asgVal (stAt ivBody 0))
section
variable {prog : Program} {w : World} {K : Frag} {B : Heap} {A : Around} {E : Value → Shared → Prop} {s s' s₁ s₂ : Shared} {L a l x C : Addr} {m m' : Str → Option Value} {D D' : Addr → Prop} {h h' : Heap} {cn : Str} {cs : Scope} {cd : Value}
theorem upFrom_succ (a : Int) (n : Nat) : upFrom a (n + 1) = a :: upFrom (a + 1) n := rfl
abbrev ivEnv (L : Addr) : Env := envOf ("SATSolver." ++ "_initialize_variables") (dScope (meth "_initialize_variables")) L 83 (.ref 82)
theorem se_const {c : Const} {k : Nat} {p : Pos} {rest : List PySem.Expr} {env : Env} : starEach (.Constant c k p :: rest) env = (false, eval (.Constant c k p) env) :: starEach rest env := rfl
theorem se_bin {l r : PySem.Expr} {o : Operator} {p : Pos} {rest : List PySem.Expr} {env : Env} : starEach (.BinOp l o r p :: rest) env = (false, eval (.BinOp l o r p) env) :: starEach rest env := rfl
theorem se_un {l : PySem.Expr} {o : UnaryOp} {p : Pos} {rest : List PySem.Expr} {env : Env} : starEach (.UnaryOp o l p :: rest) env = (false, eval (.UnaryOp o l p) env) :: starEach rest env := rfl
theorem se_name {n : Str} {p : Pos} {rest : List PySem.Expr} {env : Env} : starEach (.Name n p :: rest) env = (false, eval (.Name n p) env) :: starEach rest env := rfl
theorem se_call {f : PySem.Expr} {as : List PySem.Expr} {ks : List Keyword} {p : Pos} {rest : List PySem.Expr} {env : Env} : starEach (.Call f as ks p :: rest) env = (false, eval (.Call f as ks p) env) :: starEach rest env := rfl
theorem se_attr {f : PySem.Expr} {n : Str} {p : Pos} {rest : List PySem.Expr} {env : Env} : starEach (.Attribute f n p :: rest) env = (false, eval (.Attribute f n p) env) :: starEach rest env := rfl
theorem se_sub {f i : PySem.Expr} {p : Pos} {rest : List PySem.Expr} {env : Env} : starEach (.Subscript f i p :: rest) env = (false, eval (.Subscript f i p) env) :: starEach rest env := rfl
theorem se_lc {e : PySem.Expr} {g : List Comprehension} {c : Scope} {p : Pos} {rest : List PySem.Expr} {env : Env} : starEach (.ListComp e g c p :: rest) env = (false, eval (.ListComp e g c p) env) :: starEach rest env := rfl
theorem plain0 {pos : Pos} {env : Env} : (backTo pos (starEach [] env)).any (·.1) = false := rfl
theorem plain1 {e : PySem.Expr} {rest : List PySem.Expr} {pos : Pos} {env : Env} (he : starEach (e :: rest) env = (false, eval e env) :: starEach rest env) (h : (backTo pos (starEach rest env)).any (·.1) = false) : (backTo pos (starEach (e :: rest) env)).any (·.1) = false := by
  rw [he]; show (false || _) = false; rw [Bool.false_or]; exact h
theorem post_none {b C : Addr} {m : Str → Option Value} {Q : Value → Shared → Prop} (hn : s.heap.Ns C m) (hq : ∀ s', Eff (fun x => x = C) s s' → Q (.ref b) s') : compPost (model prog w) A E none Q (.ref b) C (.ok .next) s :=
  ⟨m, hn, fun h' sb => hq _ (sb_eff (tk := s.toks) sb rfl)⟩
theorem post_use {env : Env} {b C : Addr} {x : Str} {px : Pos} {mC mL : Str → Option Value} {Q : Value → Shared → Prop} (hn : s.heap.Ns C mC) (F : Fr B env.locals s.heap mL) (hC : C ≠ env.locals) (hB : B.get? C = none)
    (hq : ∀ s', Fr B env.locals s'.heap (updS mL x (.ref b)) → Eff (fun y => y = env.locals ∨ y = C) s s' → Q .none s')
    (hk : env.scope.kind = .function := by rfl) (hx : env.kindOf x = some .local := by rfl) :
    compPost (model prog w) A E (some (assign (.Name x px) env)) Q (.ref b) C (.ok .next) s := by
  refine wpAny_assign_Name (wpAny_storeName_local hx F.ns (fun h'' hn'' sb' => ?_) (by show (env.scope.kind == .class || (env.scope.kind == .module && env.locals != env.globals)) = false; rw [hk]; rfl))
  refine ⟨mC, hn.at' fun o e => (sb'.2 _ hC).trans e, fun h' sb => ?_⟩
  refine hq _ ⟨hn''.at' fun o e => (sb.2 _ (Ne.symm hC)).trans e, fun c o e => (sb.2 c fun z => ?_).trans ((sb'.2 c fun z => ?_).trans (F.keep c o e)), F.above⟩ ⟨fun c o n e => (sb.2 c fun z => n (.inr z)).trans ((sb'.2 c fun z => n (.inl z)).trans e), rfl, rfl⟩
  · rw [z, hB] at e; cases e
  · have := Heap.lt_size e; rw [z] at this; exact absurd this (Nat.not_lt.mpr F.above)
theorem asnU {env : Env} {x : Str} {px pos : Pos} {value : PySem.Expr} {Q : Flow → Shared → Prop} (hsw : swapsWith value (some (.Name x px)) pos.line env = pure true)
    (h : wpAny (model prog w) A (evalThenUse value env (assign (.Name x px) env)) (fun _ s' => Q .next s') E s) : wpAny (model prog w) A (exec (.Assign [.Name x px] value pos) env) Q E s := by
  rw [exec_Assign_Name_used _ _ _ _ hsw]
  exact wpAny_bind (wpAny_standAt (wpAny_bind (wpAny_mono h (fun _ _ x => wpAny_pure x) fun _ _ x => x)))
theorem newList0 {Q : Value → Shared → Prop} (q : Q (.ref s.heap.objs.size) { s with heap := s.heap.push (listO #[] 0) }) : wpAny (model prog w) A (newList []) Q E s :=
  wpAny_newObj_type q (by show (0:Nat) ≤ sizeLine; rw [sizeLine_eq]; omega)
theorem eval_literals {rg : Addr} {n : Nat} {tr ur vr : Tok} {a1 a2 a3 b1 b2 b3 b4 b5 b6 b7 b8 b9 c1 c2 c3 c4 c5 c6 : Pos} {k1 k2 k3 k4 k5 : Nat} {Q : Value → Shared → Prop} (G : Bas w K B) (kf : KF K) (F : Fr B L s.heap m) (hv : m "variables" = some (.ref rg)) (hr : IsRange s.heap rg 1 ((n : Int) + 1) 1 tr ur vr) (hn : n ≤ 20) (hh : A.handled = none)
    {use : Option (Value → Sem Unit)} {p0 : Pos} (hq : ∀ s' b C vs k m, Eff No s s' → s.heap.get? b = none → s.heap.get? C = none → b ≠ C → s'.heap.Ns C m → s'.heap.get? b = some (listO vs.toArray k) → IntsAre vs (litsOf n) → compPost (model prog w) A E use Q (.ref b) C (.ok .next) s') :
    wpAny (model prog w) A (comprehension (.ListComp (.BinOp (.Name "sign" a1) .Mult (.Name "n" a2) a3)
      [⟨.Name "n" b1, .Call (.Name "range" b2) [.Constant (.int 1) k1 b3, .BinOp (.Call (.Name "len" b4) [.Name "variables" b5] [] b6) .Add (.Constant (.int 1) k2 b7) b8] [] b9, [], 0⟩,
       ⟨.Name "sign" c1, .Tuple [.Constant (.int 1) k3 c2, .UnaryOp .USub (.Constant (.int 1) k4 c3) c4] k5 c5, [], 0⟩] litScope c6) litScope (ivEnv L) p0 (newList []) false (eval (.Call (.Name "range" b2) [.Constant (.int 1) k1 b3, .BinOp (.Call (.Name "len" b4) [.Name "variables" b5] [] b6) .Add (.Constant (.int 1) k2 b7) b8] [] b9) (ivEnv L)) use) Q E s := by
  have h1 : closureFor litScope (ivEnv L) = pure [] := closureFor_none (by decide)
  have h2 : litScope.kind = .function := rfl
  have h3 : ∀ x ∈ litScope.names, x.2 = .local → litScope.names.lookup x.1 = some .local := by decide
  refine comp_head (acc := listO #[] 0) (cl := []) rfl rfl h1 h2 h3 (by intro _; rfl) (fun {A E Q s} q => newList0 q) ?_
  show wpAny _ _ (eval (.Call (.Name "range" b2) _ [] b9) (ivEnv L)) _ _ _
  refine Call_ (nmB G kf F ?_)
  refine callWith_type1 ?_ se_const (plain1 se_bin plain0)
  refine args_cons (wpAny_Constant_int ?_) se_const
  refine args_cons (wpAny_BinOp ?_) se_bin
  refine Call_ (nmB (s := { s with toks := s.toks + 1 }) G kf F ?_)
  refine callWith_builtin1 ?_ se_name plain0
  refine args_cons (ld F hv (args_nil ?_)) se_name
  refine call_len_range (s := { s with toks := s.toks + 1 }) (n := n) hr (by rw [range_size]; omega) (by omega) (wpAny_Constant_int (P.add_int (args_nil ?_)))
  refine call_range2 fun s₁ r t u v hr0 hr1 e₁ => ?_
  have e1 : Eff No s s₁ := ⟨fun b o n q => e₁.keep b o n q, e₁.gens, e₁.os⟩
  refine iter_rangeN hr1 (by omega) fun s₂ it T e₂ hit IT hT => ?_
  have e2 := e1.same e₂
  have hits : s.heap.get? it = none := e1.none hit
  rintro b C s₃ hbe hCe hb hC e₃ hb3 hC3 hp3
  have hbC : b ≠ C := fun z => by rw [hbe, hCe] at z; exact Nat.succ_ne_self _ z.symm
  have e3 := e2.same e₃
  have hbn := e2.none hb
  have hCn := e2.none hC
  have hitl := IT.live hT it IT.mem
  have hitb : it ≠ b := fun z => by obtain ⟨o, q⟩ := hitl; rw [z, hb] at q; cases q
  have hitC : it ≠ C := fun z => by obtain ⟨o, q⟩ := hitl; rw [z, hC] at q; cases q
  have hT3 : T (upFrom 1 n) s₃.heap := by
    have : ((n : Int) + 1 - 1).toNat = n := by omega
    rw [this] at hT
    exact IT.stab hT fun c o _ q => e₃.all q
  have main : ∀ s₀, Eff No s s₀ → T (upFrom 1 n) s₀.heap → s₀.heap.get? b = some (listO #[] 0) → s₀.heap.Ns C (fun _ => none) →
      codeAny (model prog w) A (.compLoop (.ListComp (.BinOp (.Name "sign" a1) .Mult (.Name "n" a2) a3)
        [⟨.Name "n" b1, .Call (.Name "range" b2) [.Constant (.int 1) k1 b3, .BinOp (.Call (.Name "len" b4) [.Name "variables" b5] [] b6) .Add (.Constant (.int 1) k2 b7) b8] [] b9, [], 0⟩,
         ⟨.Name "sign" c1, .Tuple [.Constant (.int 1) k3 c2, .UnaryOp .USub (.Constant (.int 1) k4 c3) c4] k5 c5, [], 0⟩] litScope c6) 0 (.ref it) (.ref b) (cEnv litScope [] C (ivEnv L))) (compPost (model prog w) A E use Q (.ref b) C) s₀ := by
    intro s₀ e0 hT0 hb0 hC0
    refine two_outer (fun j s' => ∃ i ys k m', i + j = n ∧ Eff No s s' ∧ T (upFrom (1 + (i : Int)) j) s'.heap ∧ s'.heap.get? b = some (listO ys.toArray k) ∧ IntsAre ys (litsOf i) ∧ s'.heap.Ns C m') (by intro _; rfl) (fun j s₄ ⟨i, ys, k, m', hij, e4, hT4, hb4, hi4, hC4⟩ => ?_) n ⟨0, [], 0, _, by omega, e0, by simpa using hT0, hb0, .nil, hC0⟩
    cases j with
    | zero =>
      refine IT.fin hh hT4 fun h' ex => ?_
      have hin : i = n := by omega
      subst hin
      refine hq { s₄ with heap := h' } b C ys k m' ?_ hbn hCn hbC (hC4.at' fun o e => ex _ o (Ne.symm hitC) e) (ex b _ (Ne.symm hitb) hb4) hi4
      exact eff_new e4 (⟨fun c o n e => ex c o n e, rfl, rfl⟩ : Eff (fun c => c = it) s₄ { s₄ with heap := h' }) fun c z => by rw [z]; exact hits
    | succ j =>
      rw [upFrom_succ] at hT4
      refine IT.item hT4 fun h' v tk sb hv hT5 => ?_
      obtain ⟨tv, rfl⟩ := hv
      have hC5 : h'.Ns C m' := hC4.at' fun o e => (sb.2 _ (Ne.symm hitC)).trans e
      refine wpAny_assign_Name (wpAny_storeName_local (s := { s₄ with heap := h', toks := tk }) (by rfl) hC5 (fun h₆ hn6 sb₆ => ?_) (by rfl))
      have e46 : Eff (fun c => c = it ∨ c = C) s₄ { s₄ with heap := h₆, toks := tk + 1 } := ⟨fun c o n e => (sb₆.2 c fun z => n (.inr z)).trans ((sb.2 c fun z => n (.inl z)).trans e), rfl, rfl⟩
      have e6 : Eff No s { s₄ with heap := h₆, toks := tk + 1 } := eff_new e4 e46 fun c z => by rcases z with rfl | rfl; exact hits; exact hCn
      have hT6 : T (upFrom (1 + (i : Int) + 1) j) h₆ := IT.stab hT5 fun c o hc q => (sb₆.2 c fun z => by
        rcases hc with hc | hc
        · rw [List.mem_singleton] at hc; exact hitC (hc.symm.trans z)
        · cases hc).trans q
      have hb6 : h₆.get? b = some (listO ys.toArray k) := (sb₆.2 b hbC).trans ((sb.2 b (Ne.symm hitb)).trans hb4)
      refine Tuple_ (args_cons (wpAny_Constant_int (args_cons (UnaryOp_ (wpAny_Constant_int (P.neg_int (args_nil ?_)))) se_un)) se_const)
      refine new_tuple (by rw [sizeLine_eq]; simp) fun s₇ tb htb htb7 e₇ => ?_
      have e67 : Eff No ({ s₄ with heap := h₆, toks := tk + 1 } : Shared) s₇ := ⟨fun b o n q => e₇.keep b o n q, e₇.gens, e₇.os⟩
      have e7 := e6.same e67
      refine iter_tuple (V := IsInt) (xs := [1, -1]) htb7 (.cons ⟨_, rfl⟩ (.cons ⟨_, rfl⟩ .nil)) fun s₈ it' T' e₈ hit' IT' hT' => ?_
      have e68 := e67.same e₈
      have e8 := e7.same e₈
      have hit0 : s.heap.get? it' = none := e7.none hit'
      have hb8 := e68.all hb6
      have hC8 : s₈.heap.Ns C (fun y => if y = Str.ofString "n" then some (Value.int (1 + (i : Int)) tv) else m' y) := hn6.at' fun o e => e68.all e
      have hit'b : it' ≠ b := fun z => by rw [z] at hit'; rw [e67.all hb6] at hit'; cases hit'
      have hCl : ∃ o, s₇.heap.get? C = some o := by obtain ⟨o, _, _, q, _⟩ := hn6; exact ⟨o, e67.all q⟩
      have hit'C : it' ≠ C := fun z => by
        obtain ⟨o, q⟩ := hCl
        rw [z, q] at hit'; cases hit'
      have hitlive : ∃ o, s₇.heap.get? it = some o := by obtain ⟨o, q⟩ := IT.live hT6 it IT.mem; exact ⟨o, e67.all q⟩
      have hit'it : it' ≠ it := fun z => by obtain ⟨o, q⟩ := hitlive; rw [z, q] at hit'; cases hit'
      have htb0 : s.heap.get? tb = none := e6.none htb
      have htbb : tb ≠ b := fun z => by rw [z] at htb; rw [show h₆.get? b = none from htb] at hb6; cases hb6
      have htbC : tb ≠ C := fun z => by
        obtain ⟨o, _, _, q, _⟩ := hn6
        have q' : h₆.get? C = some o := q
        rw [z] at htb; rw [show h₆.get? C = none from htb] at q'; cases q'
      have htbit : tb ≠ it := fun z => by obtain ⟨o, q⟩ := IT.live hT6 it IT.mem; rw [z] at htb; rw [show h₆.get? it = none from htb] at q; cases q
      have inner : ∀ s₉, Eff No s s₉ → T' [1, -1] s₉.heap → T (upFrom (1 + (i : Int) + 1) j) s₉.heap → s₉.heap.get? b = some (listO ys.toArray k) → s₉.heap.Ns C (fun y => if y = Str.ofString "n" then some (Value.int (1 + (i : Int)) tv) else m' y) →
          codeAny (model prog w) A (.compLoop (.ListComp (.BinOp (.Name "sign" a1) .Mult (.Name "n" a2) a3)
            [⟨.Name "n" b1, .Call (.Name "range" b2) [.Constant (.int 1) k1 b3, .BinOp (.Call (.Name "len" b4) [.Name "variables" b5] [] b6) .Add (.Constant (.int 1) k2 b7) b8] [] b9, [], 0⟩,
             ⟨.Name "sign" c1, .Tuple [.Constant (.int 1) k3 c2, .UnaryOp .USub (.Constant (.int 1) k4 c3) c4] k5 c5, [], 0⟩] litScope c6) 1 (.ref it') (.ref b) (cEnv litScope [] C (ivEnv L))) (fun r s₅ => match r with | .ok _ => ∃ m, m < j + 1 ∧ ∃ i ys k m', i + m = n ∧ Eff No s s₅ ∧ T (upFrom (1 + (i : Int)) m) s₅.heap ∧ s₅.heap.get? b = some (listO ys.toArray k) ∧ IntsAre ys (litsOf i) ∧ s₅.heap.Ns C m' | .error _ => False) s₉ := by
        intro s₉ e9 hT9' hT9 hb9 hC9
        refine two_inner (fun q s' => ∃ rem pre ys k m', rem.length = q ∧ pre ++ rem = [1, -1] ∧ Eff No s s' ∧ T' rem s'.heap ∧ T (upFrom (1 + (i : Int) + 1) j) s'.heap ∧ s'.heap.get? b = some (listO ys.toArray k) ∧ IntsAre ys (litsOf i ++ pre.map fun g => g * (1 + (i : Int))) ∧ s'.heap.Ns C m' ∧ m' "n" = some (.int (1 + (i : Int)) tv)) (fun q s₁₀ ⟨rem, pre, ys, k, m', hq', hpre, e10, hT10', hT10, hb10, hi10, hC10, hm10⟩ => ?_) 2 ⟨[1, -1], [], ys, k, _, rfl, rfl, e9, hT9', hT9, hb9, by simpa using hi4, hC9, if_pos rfl⟩
        cases rem with
        | nil =>
          refine IT'.fin hh hT10' fun h' ex => ?_
          have ex' : Eff (fun c => c = it') s₁₀ { s₁₀ with heap := h' } := ⟨fun c o n e => ex c o n e, rfl, rfl⟩
          refine ⟨j, by omega, i + 1, ys, k, m', by omega, eff_new e10 ex' fun c z => by rw [z]; exact hit0, ?_, ex b _ (Ne.symm hit'b) hb10, ?_, hC10.at' fun o e => ex _ o (Ne.symm hit'C) e⟩
          · have : (1 : Int) + ((i + 1 : Nat) : Int) = 1 + (i : Int) + 1 := by omega
            rw [this]
            refine IT.stab hT10 fun c o hc q => ex c o (fun z => ?_) q
            rcases hc with hc | hc
            · rw [List.mem_singleton] at hc; exact hit'it (z.symm.trans hc)
            · cases hc
          · rw [List.append_nil] at hpre
            subst hpre
            have : litsOf (i + 1) = litsOf i ++ [1, -1].map fun g => g * (1 + (i : Int)) := by
              show litsOf i ++ [((i : Int) + 1), -((i : Int) + 1)] = _
              simp only [List.map_cons, List.map_nil]
              congr 1
              rw [show (1 : Int) * (1 + (i : Int)) = (i : Int) + 1 by omega, show (-1 : Int) * (1 + (i : Int)) = -((i : Int) + 1) by omega]
            rw [this]; exact hi10
        | cons g rem =>
          refine IT'.item hT10' fun h' v tk sb hv hT11 => ?_
          obtain ⟨tg, rfl⟩ := hv
          have hC11 : h'.Ns C m' := hC10.at' fun o e => (sb.2 _ (Ne.symm hit'C)).trans e
          refine wpAny_assign_Name (wpAny_storeName_local (s := { s₁₀ with heap := h', toks := tk }) (by rfl) hC11 (fun h₁₂ hn12 sb₁₂ => ?_) (by rfl))
          have hg : g = 1 ∨ g = -1 := by have : g ∈ [(1 : Int), -1] := by rw [← hpre]; simp
                                         simpa using this
          have e12 : Eff (fun c => c = it' ∨ c = C) s₁₀ { s₁₀ with heap := h₁₂, toks := tk + 1 } := ⟨fun c o n e => (sb₁₂.2 c fun z => n (.inr z)).trans ((sb.2 c fun z => n (.inl z)).trans e), rfl, rfl⟩
          have hb12 : h₁₂.get? b = some (listO ys.toArray k) := (sb₁₂.2 b hbC).trans ((sb.2 b (Ne.symm hit'b)).trans hb10)
          refine wpAny_BinOp (Nm.name (s := { s₁₀ with heap := h₁₂, toks := tk + 1 }) (Nm.loc hn12 (if_pos rfl)) (Nm.name (s := { s₁₀ with heap := h₁₂, toks := tk + 1 }) (Nm.loc hn12 ((if_neg (by decide)).trans hm10)) (P.mul_int ?_ (IntMulOk.of_left (by rcases hg with rfl | rfl <;> decide +kernel)))))
          have hyl := hi10.length
          refine list_push (s := { s₁₀ with heap := h₁₂, toks := tk + 1 + 1 }) hb12 (by
            rw [List.size_toArray, hyl, List.length_append, litsOf_length, List.length_map, sizeLine_eq]
            have : pre.length ≤ 2 := by have := congrArg List.length hpre; simp at this; omega
            omega) fun h₁₃ k₁₃ sb₁₃ ho₁₃ => ?_
          refine ⟨rem.length, by rw [← hq']; simp, rem, pre ++ [g], ys ++ [.int (g * (1 + (i : Int))) (tk + 1)], k₁₃, _, rfl, by rw [List.append_assoc]; exact hpre, ?_, ?_, ?_, by rw [ho₁₃]; simp, ?_, hn12.at' fun o e => (sb₁₃.2 _ (Ne.symm hbC)).trans e, (if_neg (by decide)).trans hm10⟩
          · refine eff_new (eff_new e10 e12 fun c z => by rcases z with rfl | rfl; exact hit0; exact hCn) (⟨fun c o n e => (sb₁₃.2 c n).trans e, rfl, rfl⟩ : Eff (fun c => c = b) { s₁₀ with heap := h₁₂, toks := tk + 1 } { s₁₀ with heap := h₁₃, toks := tk + 1 + 1 }) fun c z => by rw [z]; exact hbn
          · refine IT'.stab (IT'.stab hT11 fun c o hc q => (sb₁₂.2 c fun z => ?_).trans q) fun c o hc q => (sb₁₃.2 c fun z => ?_).trans q
            · rcases hc with hc | hc
              · rw [List.mem_singleton] at hc; exact hit'C (hc.symm.trans z)
              · rw [List.mem_singleton] at hc; exact htbC (hc.symm.trans z)
            · rcases hc with hc | hc
              · rw [List.mem_singleton] at hc; exact hit'b (hc.symm.trans z)
              · rw [List.mem_singleton] at hc; exact htbb (hc.symm.trans z)
          · refine IT.stab hT10 fun c o hc q => ?_
            rcases hc with hc | hc
            · rw [List.mem_singleton] at hc
              rw [hc] at q ⊢
              exact (sb₁₃.2 it hitb).trans ((sb₁₂.2 it hitC).trans ((sb.2 it (fun z : it = it' => hit'it z.symm)).trans q))
            · cases hc
          · rw [List.map_append, ← List.append_assoc]
            exact hi10.append (.cons _ _ .nil)
      have hT8 : T (upFrom (1 + (i : Int) + 1) j) s₈.heap := IT.stab hT6 fun c o _ q => e68.all q
      exact two_start (inner s₈ e8 hT' hT8 hb8 hC8) (IT'.self hT' (inner s₈ e8 hT' hT8 hb8 hC8))
  exact codeAny_compStart_list (main _ e3 hT3 hb3 hC3) (IT.self hT3 (main _ e3 hT3 hb3 hC3))
end
end Dp
end
section
open PySem PySem.W PySem.Calls PyProof.Rows
namespace Dp
section
variable {prog : Program} {w : World} {K : Frag} {B : Heap} {A : Around} {E : Value → Shared → Prop} {s s' s₁ s₂ : Shared} {L a l x C : Addr} {m m' : Str → Option Value} {D D' : Addr → Prop} {h h' : Heap} {cn : Str} {cs : Scope} {cd : Value}
theorem mulList {l : Addr} {items : Array Value} {k : Nat} {x : Int} {u : Tok} {Q : Value → Shared → Prop}
    (hl : s.heap.get? l = some (listO items k)) (hlo : -(2 ^ 63 : Int) ≤ x) (hhi : x < 2 ^ 63) (hsz : items.size * x.toNat ≤ 2 ^ 24)
    (hq : ∀ s' b, s.heap.get? b = none → s'.heap.get? b = some (listO (List.foldl (fun x1 x2 => x1 ++ x2) #[] (List.replicate (if items.isEmpty = true then 0 else x.toNat) items)) 0) → Eff No s s' → Q (.ref b) s') :
    wpAny (model prog w) A (binaryOp .Mult (.ref l) (.int x u)) Q E s :=
  wpAny_binaryOp_repeat_ref (T := "list") (U := "int") (by decide) ⟨_, hl, rfl⟩ (fun s' => typeIs_int s' x u) noFill_list_mul F.fills_int_mul F.slot_int_rmul repeat_list F.slot_int_index.lookup
    (call_meets F.slot_int_rmul (typeIs_int s x u) F.entry_int_rmul (F.args_int_rmul_2 _ _) (int___rmul___int_list x u l items k)
      ⟨hl, rfl, ⟨_, hl, rfl⟩, call_meets F.slot_list_mul ⟨_, hl, rfl⟩ F.entry_list_mul (F.args_list_mul_2 _ _)
        (AutoListH.list___mul___list_int_3 l items k x u (by simp [Builtin.List.listFitsIndex]; omega) (by omega) (by simp [Builtin.List.listTooLong, sizeLine]; omega))
        ⟨hl, hq _ _ new_none (Heap.get?_push_size _ rfl) ⟨fun b o _ e => Heap.get?_push_of_some _ e, rfl, rfl⟩⟩⟩)
theorem litsOf_nodup (n : Nat) : (litsOf n).Nodup := by
  induction n with
  | zero => exact List.nodup_nil
  | succ n ih =>
    show (litsOf n ++ [((n : Int) + 1), -((n : Int) + 1)]).Nodup
    rw [List.nodup_append]
    refine ⟨ih, by simp; omega, fun a ha b hb z => ?_⟩
    have := mem_litsOf.mp ha
    have h2 := this.2
    simp at hb
    rcases hb with rfl | rfl <;> omega
def sentScope : Scope := dcScope (match stAt ivBody 1 with | .Assign _ v _ => v | _ => .Name "" default)
def occScope : Scope := dcScope (match stAt ivBody 2 with | .Assign _ v _ => v | _ => .Name "" default)
theorem eval_sentinels {n : Nat} {ll : Addr} {lvs : List Value} {kl : Nat} {a1 a2 a3 b1 b2 c1 : Pos} {Q : Value → Shared → Prop} (G : Bas w K B) (kf : KF K) (F : Fr B L s.heap m) (hv : m "literals" = some (.ref ll)) (hl : s.heap.get? ll = some (listO lvs.toArray kl)) (hi : IntsAre lvs (litsOf n)) (hn : n ≤ 20) (hh : A.handled = none)
    (hq : ∀ s' b o (sa : Int → Addr), Eff No s s' → s.heap.get? b = none → s'.heap.get? b = some o → KMap prog w o (litsOf n) (fun l v => v = .ref (sa l)) → (∀ l, IsLit n l → s.heap.get? (sa l) = none ∧ s'.heap.get? (sa l) = some (setNew w) ∧ sa l ≠ b) → (∀ l l', IsLit n l → IsLit n l' → sa l = sa l' → l = l') → Q (.ref b) s') :
    wpAny (model prog w) A (eval (.DictComp (.Name "lit" a1) (.Call (.Name "set" a2) [] [] a3) [⟨.Name "lit" b1, .Name "literals" b2, [], 0⟩] sentScope c1) (ivEnv L)) Q E s := by
  rw [arm_eval_DictComp]
  have h1 : closureFor sentScope (ivEnv L) = pure [] := closureFor_none (by decide)
  refine dcomp (knd := intKind prog w) (cl := []) (V := IsInt) hh h1 rfl (by decide) (by intro _; rfl) ?_
  refine ld F hv ?_
  refine iter_list (listO_is hl) (ints_f2 hi) fun s₂ it T e₂ hit IT hT => ?_
  refine ⟨it, [it], [ll], T, litsOf n, rfl, IT, hT, fun b C hb hC hbC s₃ e₃ hp3 hCe hbe => ?_⟩
  have e3 := e₂.same e₃
  have hbn := e₂.none hb
  have hCn := e₂.none hC
  have hits : s.heap.get? it = none := hit
  have hlb : ll ≠ b := fun z => by rw [← z, hl] at hbn; cases hbn
  have hlC : ll ≠ C := fun z => by rw [← z, hl] at hCn; cases hCn
  refine ⟨fun r ys s' => ∃ (done : List Int) (as : List Addr), done ++ r = litsOf n ∧ as.length = done.length ∧ ys = (done.zip as).map (fun p => (p.1, Value.ref p.2)) ∧ (∀ a ∈ as, s.heap.get? a = none ∧ s'.heap.get? a = some (setNew w) ∧ a ≠ b ∧ a ≠ C ∧ a ≠ it) ∧ as.Nodup ∧ Eff No s s' ∧ (∃ o, s'.heap.get? C = some o) ∧ ∃ o, s'.heap.get? it = some o, ⟨[], [], rfl, rfl, rfl, fun a ha => (nomatch ha), List.nodup_nil, e3, ?_⟩, ?_, ?_, ?_, ?_⟩
  · refine ⟨?_, ?_⟩
    · have : (s₂.heap.push dict0).objs.size = C := by rw [Heap.size_push, hCe]
      rw [hp3, ← this]; exact ⟨_, pushCells_keeps _ _ _ _ (Heap.get?_push_size _ rfl)⟩
    · obtain ⟨o, q⟩ := IT.live hT it IT.mem; exact ⟨o, e₃.all q⟩
  · rintro y r ys s₅ s₆ v m' ⟨done, as, hdone, hlen, rfl, has, hnd, e5, ⟨oC, hoC⟩, ⟨oi, hoi⟩⟩ ⟨tk, rfl⟩ e6 hC6 hlive hacc
    have hbit : b ≠ it := fun z => by obtain ⟨o, q⟩ := IT.live hT it IT.mem; rw [← z, hb] at q; cases q
    have hCit : C ≠ it := fun z => by obtain ⟨o, q⟩ := IT.live hT it IT.mem; rw [← z, hC] at q; cases q
    have e6' : Eff No s s₆ := eff_new e5 e6 fun x z => by rw [z]; exact hits
    refine wpAny_assign_Name (wpAny_storeName_local (by rfl) hC6 (fun h₇ hn7 sb₇ => ?_) (by rfl))
    refine wpAny_tests_nil ?_
    rw [if_pos rfl]
    have e67 : Eff (fun x => x = C) s₆ { s₆ with heap := h₇, toks := s₆.toks + 1 } := sb_eff sb₇ rfl
    generalize hs7 : ({ s₆ with heap := h₇, toks := s₆.toks + 1 } : Shared) = s₇ at e67
    have hn7' : s₇.heap.Ns C (fun z => if z = Str.ofString "lit" then some (.int y tk) else m' z) := by subst hs7; exact hn7
    have e7 : Eff No s s₇ := eff_new e6' e67 fun x z => by rw [z]; exact hCn
    have F7 := Fr_no F e7
    refine Nm.name (s := s₇) (Nm.loc hn7' (if_pos rfl)) (Call_ (Nm.name (s := s₇) (Nm.bui G kf (frOn F7)) (callWith_type0 (call_set0 ?_))))
    have hlast : s₇.heap.get? s₇.heap.objs.size = none := new_none
    generalize hs8 : ({ s₇ with heap := s₇.heap.push (setNew w) } : Shared) = s₈
    have e78 : Eff No s₇ s₈ := by subst hs8; exact ⟨fun b o _ q => Heap.get?_push_of_some _ q, rfl, rfl⟩
    have g8 : s₈.heap.get? s₇.heap.objs.size = some (setNew w) := by subst hs8; exact Heap.get?_push_size _ rfl
    generalize s₇.heap.objs.size = na at hlast g8
    have hC7 : ∃ o, s₇.heap.get? C = some o := by obtain ⟨o, _, _, q, _⟩ := hn7'; exact ⟨o, q⟩
    have hb7 : ∃ o, s₇.heap.get? b = some o := by obtain ⟨o, _, _, q, _⟩ := hacc; exact ⟨o, e67.keep _ _ hbC q⟩
    have hi7 : ∃ o, s₇.heap.get? it = some o := by
      obtain ⟨o, q⟩ := hlive it (by simp); exact ⟨o, e67.keep _ _ (fun z => hCit z.symm) q⟩
    have hyd : y ∉ done := fun z => by have := litsOf_nodup n; rw [← hdone, List.nodup_append] at this; exact this.2.2 y z y (by simp) rfl
    have hst : stored ((done.zip as).map (fun p => (p.1, Value.ref p.2))) y (.ref na) = ((done ++ [y]).zip (as ++ [na])).map (fun p => (p.1, Value.ref p.2)) := by
      rw [List.zip_append hlen.symm, List.map_append]
      unfold stored
      rw [if_neg]
      · rfl
      · intro z
        rw [List.any_eq_true] at z
        obtain ⟨kv, h1, h2⟩ := z
        obtain ⟨p, h3, rfl⟩ := List.mem_map.mp h1
        exact hyd (of_decide_eq_true h2 ▸ (List.of_mem_zip h3).1)
    refine ⟨fun x => x = C, _, y, ⟨fun c o n q => e78.all (e67.keep c o n q), e78.gens.trans e67.gens, e78.os.trans e67.os⟩, ?_, hn7'.at' fun o q => e78.all q, ?_, intKind_is _ _ _ _, fun s₉ e₉ => ⟨done ++ [y], as ++ [na], by rw [List.append_assoc]; exact hdone, by simp [hlen], hst, ?_, ?_, ?_, ?_, ?_⟩⟩
    · rintro x (hx | hx | hx) z
      · rw [List.mem_singleton] at hx; exact hCit (z.symm.trans hx)
      · rw [List.mem_singleton] at hx; exact hlC (hx.symm.trans z)
      · exact hbC (hx.symm.trans z)
    · rw [List.length_map, sizeLine_eq]
      have h1 : (done.zip as).length ≤ done.length := by rw [List.length_zip]; omega
      have h2 : done.length ≤ (litsOf n).length := by rw [← hdone]; simp
      rw [litsOf_length] at h2; omega
    · intro a ha
      rcases List.mem_append.mp ha with z | z
      · obtain ⟨x1, x2, x3, x4, x5⟩ := has a z
        exact ⟨x1, e₉.keep _ _ x3 (e78.all (e67.keep _ _ x4 (e6.keep _ _ x5 x2))), x3, x4, x5⟩
      · rw [List.mem_singleton] at z; subst z
        have ne : ∀ {c}, (∃ o, s₇.heap.get? c = some o) → a ≠ c := fun ⟨o, q⟩ z => by rw [← z, hlast] at q; cases q
        exact ⟨e7.none hlast, e₉.keep _ _ (ne hb7) g8, ne hb7, ne hC7, ne hi7⟩
    · rw [List.nodup_append]
      refine ⟨hnd, by simp, fun a ha c hc z => ?_⟩
      rw [List.mem_singleton] at hc; subst hc
      obtain ⟨x1, x2, x3, x4, x5⟩ := has a ha
      have := e67.keep _ _ x4 (e6.keep _ _ x5 x2)
      rw [z, hlast] at this; cases this
    · exact eff_new (e7.same e78) e₉ fun x z => by rw [z]; exact hbn
    · obtain ⟨o, q⟩ := hC7; exact ⟨o, e₉.keep _ _ (Ne.symm hbC) (e78.all q)⟩
    · obtain ⟨o, q⟩ := hi7; exact ⟨o, e₉.keep _ _ (fun z => hbit z.symm) (e78.all q)⟩
  · rintro ys s₅ s₆ ⟨done, as, hdone, hlen, rfl, has, hnd, e5, -⟩ e6 hacc ⟨m', hm⟩
    rw [List.append_nil] at hdone; subst hdone
    refine ⟨m', hm, fun h' sb => ?_⟩
    have e6' : Eff No s s₆ := eff_new e5 e6 fun b z => by rw [z]; exact hits
    have e7 : Eff No s { s₆ with heap := h' } := eff_new e6' (sb_eff (P := fun x => x = C) (tk := s₆.toks) sb rfl) fun x z => by rw [show x = C from z]; exact hCn
    obtain ⟨o, ho, hd⟩ := Heap.dictOf_iff.mp hacc
    have hidx : ∀ {l : Int} {i : Nat}, (litsOf n)[i]? = some l → (litsOf n).idxOf l = i := fun {l i} e => by
      have hi : i < (litsOf n).length := by rcases Nat.lt_or_ge i (litsOf n).length with q | q; exact q; rw [List.getElem?_eq_none q] at e; cases e
      rw [List.getElem?_eq_getElem hi] at e
      injection e with e
      rw [← e]; exact (litsOf_nodup n).idxOf_getElem i hi
    have hat : ∀ {l : Int}, IsLit n l → ∃ (i : Nat) (a : Addr), (litsOf n)[i]? = some l ∧ as[i]? = some a ∧ as.getD ((litsOf n).idxOf l) 0 = a := fun {l} hl => by
      obtain ⟨i, hi⟩ := List.getElem?_of_mem (mem_litsOf.mpr hl)
      have hlt : i < (litsOf n).length := by rcases Nat.lt_or_ge i (litsOf n).length with q | q; exact q; rw [List.getElem?_eq_none q] at hi; cases hi
      have ha : as[i]? = some as[i] := List.getElem?_eq_getElem (by omega)
      exact ⟨i, as[i], hi, ha, by rw [hidx hi, List.getD_eq_getElem?_getD, ha]; rfl⟩
    refine hq { s₆ with heap := h' } b o (fun l => as.getD ((litsOf n).idxOf l) 0) e7 hbn ((sb.2 b hbC).trans ho) ⟨_, fun h a ha => Heap.dictOf_iff.mpr ⟨o, ha, hd⟩, ?_, fun kv hkv => ?_⟩ (fun l hl => ?_) (fun l l' hl hl' e => ?_)
    · rw [List.map_map]
      show (((litsOf n).zip as).map Prod.fst) = litsOf n
      exact List.map_fst_zip (by omega)
    · obtain ⟨p, hp, rfl⟩ := List.mem_map.mp hkv
      obtain ⟨i, hi⟩ := List.getElem?_of_mem hp
      rw [List.getElem?_zip_eq_some] at hi
      show Value.ref p.2 = .ref (as.getD ((litsOf n).idxOf p.1) 0)
      rw [hidx hi.1, List.getD_eq_getElem?_getD, hi.2]; rfl
    · obtain ⟨i, a, h1, h2, h3⟩ := hat hl
      have ham := List.mem_of_getElem? h2
      obtain ⟨x1, x2, x3, x4, x5⟩ := has a ham
      show s.heap.get? (as.getD _ 0) = none ∧ h'.get? (as.getD _ 0) = some (setNew w) ∧ as.getD _ 0 ≠ b
      rw [h3]
      exact ⟨x1, (sb.2 _ x4).trans (e6.keep _ _ x5 x2), x3⟩
    · obtain ⟨i, a, h1, h2, h3⟩ := hat hl
      obtain ⟨i', a', h1', h2', h3'⟩ := hat hl'
      have e' : a = a' := by rw [← h3, ← h3']; exact e
      subst e'
      have hii : i = i' := by
        have hlt : i < as.length := by rcases Nat.lt_or_ge i as.length with q | q; exact q; rw [List.getElem?_eq_none q] at h2; cases h2
        exact (List.getElem?_inj hlt hnd).mp (h2.trans h2'.symm)
      subst hii
      rw [h1] at h1'; injection h1'
  · intro z; rw [List.mem_singleton] at z; exact hlC z.symm
  · intro z; rw [List.mem_singleton] at z; exact hlb z.symm
end
end Dp
end
section
open PySem PySem.W PySem.Calls PyProof.Rows
namespace Dp
section
variable {prog : Program} {w : World} {K : Frag} {B : Heap} {A : Around} {E : Value → Shared → Prop} {s s' s₁ s₂ : Shared} {L a l x C : Addr} {m m' : Str → Option Value} {adr adr' : Role → Addr} {D D' : Addr → Prop} {S S' : SV} {h h' : Heap} {cn : Str} {cs : Scope} {cd : Value}
theorem eval_occ {n : Nat} {ll : Addr} {lvs : List Value} {kl : Nat} {a1 a2 b1 b2 c1 : Pos} {k1 : Nat} {Q : Value → Shared → Prop} (F : Fr B L s.heap m) (hv : m "literals" = some (.ref ll)) (hl : s.heap.get? ll = some (listO lvs.toArray kl)) (hi : IntsAre lvs (litsOf n)) (hn : n ≤ 20) (hh : A.handled = none)
    (hq : ∀ s' b o, Eff No s s' → s.heap.get? b = none → s'.heap.get? b = some o → KMap prog w o (litsOf n) (fun _ => IsIntV) → Q (.ref b) s') :
    wpAny (model prog w) A (eval (.DictComp (.Name "lit" a1) (.Constant (.int 0) k1 a2) [⟨.Name "lit" b1, .Name "literals" b2, [], 0⟩] occScope c1) (ivEnv L)) Q E s := by
  rw [arm_eval_DictComp]
  have h1 : closureFor occScope (ivEnv L) = pure [] := closureFor_none (by decide)
  refine dcomp (knd := intKind prog w) (cl := []) (V := IsInt) hh h1 rfl (by decide) (by intro _; rfl) ?_
  refine ld F hv ?_
  refine iter_list (listO_is hl) (ints_f2 hi) fun s₂ it T e₂ hit IT hT => ?_
  refine ⟨it, [it], [ll], T, litsOf n, rfl, IT, hT, fun b C hb hC hbC s₃ e₃ hp3 hCe hbe => ?_⟩
  have e3 := e₂.same e₃
  have hbn := e₂.none hb
  have hCn := e₂.none hC
  have hits : s.heap.get? it = none := hit
  have hlb : ll ≠ b := fun z => by rw [← z, hl] at hbn; cases hbn
  have hlC : ll ≠ C := fun z => by rw [← z, hl] at hCn; cases hCn
  have hCit : C ≠ it := fun z => by obtain ⟨o, q⟩ := IT.live hT it IT.mem; rw [← z, hC] at q; cases q
  refine ⟨fun r ys s' => ∃ (done : List Int), done ++ r = litsOf n ∧ ys.map (·.1) = done ∧ (∀ kv ∈ ys, IsIntV kv.2) ∧ Eff No s s', ⟨[], rfl, rfl, fun a ha => (nomatch ha), e3⟩, ?_, ?_, ?_, ?_⟩
  · rintro y r ys s₅ s₆ v m' ⟨done, hdone, hkeys, hvals, e5⟩ ⟨tk, rfl⟩ e6 hC6 hlive hacc
    have e6' : Eff No s s₆ := eff_new e5 e6 fun x z => by rw [z]; exact hits
    refine wpAny_assign_Name (wpAny_storeName_local (by rfl) hC6 (fun h₇ hn7 sb₇ => ?_) (by rfl))
    refine wpAny_tests_nil ?_
    rw [if_pos rfl]
    have e67 : Eff (fun x => x = C) s₆ { s₆ with heap := h₇, toks := s₆.toks + 1 } := sb_eff sb₇ rfl
    have e7 : Eff No s { s₆ with heap := h₇, toks := s₆.toks + 1 } := eff_new e6' e67 fun x z => by rw [z]; exact hCn
    refine Nm.name (s := { s₆ with heap := h₇, toks := s₆.toks + 1 }) (Nm.loc hn7 (if_pos rfl)) (wpAny_Constant_int ?_)
    have hyd : y ∉ done := fun z => by have := litsOf_nodup n; rw [← hdone, List.nodup_append] at this; exact this.2.2 y z y (by simp) rfl
    have hst : ∀ v, stored ys y v = ys ++ [(y, v)] := fun v => by
      unfold stored
      rw [if_neg]
      intro z
      rw [List.any_eq_true] at z
      obtain ⟨kv, h1, h2⟩ := z
      exact hyd (by rw [← hkeys, ← of_decide_eq_true h2]; exact List.mem_map_of_mem h1)
    refine ⟨fun x => x = C, _, y, ⟨e67.keep, e67.gens, e67.os⟩, ?_, hn7, ?_, intKind_is _ _ _ _, fun s₉ e₉ => ⟨done ++ [y], by rw [List.append_assoc]; exact hdone, by rw [hst, List.map_append, hkeys]; rfl, ?_, ?_⟩⟩
    · rintro x (hx | hx | hx) z
      · rw [List.mem_singleton] at hx; exact hCit (z.symm.trans hx)
      · rw [List.mem_singleton] at hx; exact hlC (hx.symm.trans z)
      · exact hbC (hx.symm.trans z)
    · rw [sizeLine_eq]
      have h1 : ys.length = done.length := by rw [← hkeys]; simp
      have h2 : done.length ≤ (litsOf n).length := by rw [← hdone]; simp
      rw [litsOf_length] at h2; omega
    · intro kv hkv
      rw [hst] at hkv
      rcases List.mem_append.mp hkv with z | z
      · exact hvals kv z
      · rw [List.mem_singleton] at z; subst z; exact ⟨_, _, rfl⟩
    · exact eff_new e7 ⟨e₉.keep, e₉.gens, e₉.os⟩ fun x z => by rw [z]; exact hbn
  · rintro ys s₅ s₆ ⟨done, hdone, hkeys, hvals, e5⟩ e6 hacc ⟨m', hm⟩
    rw [List.append_nil] at hdone; subst hdone
    refine ⟨m', hm, fun h' sb => ?_⟩
    have e6' : Eff No s s₆ := eff_new e5 e6 fun b z => by rw [z]; exact hits
    have e7 : Eff No s { s₆ with heap := h' } := eff_new e6' (sb_eff (P := fun x => x = C) (tk := s₆.toks) sb rfl) fun x z => by rw [show x = C from z]; exact hCn
    obtain ⟨o, ho, hd⟩ := Heap.dictOf_iff.mp hacc
    exact hq { s₆ with heap := h' } b o e7 hbn ((sb.2 b hbC).trans ho) ⟨_, fun h a ha => Heap.dictOf_iff.mpr ⟨o, ha, hd⟩, hkeys, hvals⟩
  · intro z; rw [List.mem_singleton] at z; exact hlC z.symm
  · intro z; rw [List.mem_singleton] at z; exact hlb z.symm
theorem set_grow {name : Str} {v : Value} {N : Role → Prop} {b : Role → Addr} {X : Addr → Prop} {Q : Unit → Shared → Prop} (G : Bas w K B) (kf : KF K) (o : On B s.heap) (R : Rep prog w B D adr S s.heap) (hn : name ∈ sAttrs) (hz : S.ph ≤ 12) (hp1 : S'.ph = S.ph + 1)
    (hl : ∀ r, S'.live r ↔ S.live r ∨ N r) (hN : ∀ r, N r → ¬ S.live r) (hA1 : ∀ r, S.live r → adr' r = adr r) (hA2 : ∀ r, N r → adr' r = b r)
    (hb : ∀ r, N r → ¬ D (b r)) (hinj : ∀ r r', N r → N r' → b r = b r' → r = r')
    (hX : ∀ x, X x → ¬ D x ∧ (∃ o, s.heap.get? x = some o) ∧ ∀ r, N r → b r ≠ x) (hy : S'.syms = S.syms) (hB : ∀ x, (∃ r, N r ∧ b r = x) ∨ X x → B.get? x = none)
    (hatt : ∀ f, Att adr S f → Att adr' S' (updS f name v))
    (hnew : ∀ r h', Heap.SameBut (adr .dct) s.heap h' → N r → ∃ o, s.heap.get? (b r) = some o ∧ (h'.get? (b r) = some o → RoleOk prog w (fun x => D x ∨ (∃ r, N r ∧ b r = x) ∨ X x) (ownOf adr' S') adr' h' S' r o))
    (hs : ∀ h' r o, S.live r → r ≠ .dct → RoleOk prog w (fun x => D x ∨ (∃ r, N r ∧ b r = x) ∨ X x) (ownOf adr' S') adr' h' S r o → RoleOk prog w (fun x => D x ∨ (∃ r, N r ∧ b r = x) ∨ X x) (ownOf adr' S') adr' h' S' r o)
    (hq : ∀ s', Rep prog w B (fun x => D x ∨ (∃ r, N r ∧ b r = x) ∨ X x) adr' S' s'.heap → Eff (fun x => x = adr .dct) s s' → Q () s') :
    wpAny (model prog w) A (setAttr (.ref (adr .slf)) name v) Q E s := by
  refine R.set G o kf.S hn (by omega) fun h' es k f sb g hl1 _ hd ha tk => hq _ ?_ (sb_eff sb rfl)
  refine R.grow sb g hl hN hA1 hA2 (fun r hr => ⟨hb r hr, hB _ (.inl ⟨r, hr, rfl⟩), fun z => hb r hr (z ▸ R.sub .dct trivial)⟩) hinj (fun x hx => ⟨(hX x hx).1, hB x (.inr hx), (hX x hx).2.1, (hX x hx).2.2⟩) hy ⟨es, k, _, rfl, by rw [hp1]; omega, hd, hatt f ha⟩ (fun r hr => hnew r h' sb hr) (hs h')
end
end Dp
end
section
open PySem PySem.W PySem.Calls PyProof.Rows
namespace Dp
def adr1 (adr : Role → Addr) (bd : Addr) (sa : Int → Addr) : Role → Addr
  | .sent l => sa l
  | .sdct => bd
  | r => adr r
def upR (adr : Role → Addr) (q : Role) (b : Addr) : Role → Addr := fun r => if rolEq r q = true then b else adr r
theorem upR_ne {adr : Role → Addr} {q r : Role} {b : Addr} (h : r ≠ q) : upR adr q b r = adr r := if_neg fun z => h (rolEq_iff.mp z)
theorem upR_self {adr : Role → Addr} {q : Role} {b : Addr} : upR adr q b q = b := if_pos (rolEq_iff.mpr rfl)
section
variable {prog : Program} {w : World} {K : Frag} {B : Heap} {A : Around} {E : Value → Shared → Prop} {s s' s₀ s₁ s₂ : Shared} {L a l x C : Addr} {m m' : Str → Option Value} {adr adr' : Role → Addr} {D D' : Addr → Prop} {S S' : SV} {h h' : Heap} {cn : Str} {cs : Scope} {cd : Value}
theorem Gr.roles {N : Role → Prop} {b : Role → Addr} {X : Addr → Prop} (g : Gr D D' s s₁) (e : Eff (fun x => D' x) s₁ s₂) (hb : ∀ r, N r → s.heap.get? (b r) = none) (hX : ∀ x, X x → s.heap.get? x = none) : Gr D (fun x => D' x ∨ (∃ r, N r ∧ b r = x) ∨ X x) s s₂ := by
  refine ⟨fun x h => .inl (g.up x h), fun x h => ?_, g.eff.trans e g.back⟩
  rcases h with h | ⟨r, h, rfl⟩ | h
  · exact g.back x h
  · exact .inr (hb r h)
  · exact .inr (hX x h)
theorem set_one {name : Str} {q : Role} {b : Addr} {X : Addr → Prop} {Q : Unit → Shared → Prop} {ob : Obj} (G : Bas w K B) (kf : KF K) (o : On B s.heap) (R : Rep prog w B D adr S s.heap) (hn : name ∈ sAttrs) (hz : S.ph ≤ 12) (hp1 : S'.ph = S.ph + 1)
    (hl : ∀ r, S'.live r ↔ S.live r ∨ r = q) (hN : ¬ S.live q) (hb : ¬ D b) (hB : B.get? b = none) (hob : s.heap.get? b = some ob)
    (hX : ∀ x, X x → ¬ D x ∧ (∃ o, s.heap.get? x = some o) ∧ b ≠ x ∧ B.get? x = none) (hy : S'.syms = S.syms)
    (hatt : ∀ f, Att adr S f → Att (upR adr q b) S' (updS f name (.ref b)))
    (hnew : ∀ h', Heap.SameBut (adr .dct) s.heap h' → RoleOk prog w (fun x => D x ∨ (∃ r, r = q ∧ b = x) ∨ X x) (ownOf (upR adr q b) S') (upR adr q b) h' S' q ob)
    (hs : ∀ (D : Addr → Prop) (own : Addr → Prop) (ad : Role → Addr) h' r o, S.live r → r ≠ .dct → RoleOk prog w D own ad h' S r o → RoleOk prog w D own ad h' S' r o)
    (hq : ∀ s', Rep prog w B (fun x => D x ∨ (∃ r, r = q ∧ b = x) ∨ X x) (upR adr q b) S' s'.heap → Eff (fun x => x = adr .dct) s s' → Q () s') :
    wpAny (model prog w) A (setAttr (.ref (adr .slf)) name (.ref b)) Q E s := by
  refine set_grow (S' := S') (adr' := upR adr q b) (N := fun r => r = q) (b := fun _ => b) (X := X) G kf o R hn hz hp1 hl (fun r hr => hr ▸ hN) (fun r hr => upR_ne fun z => hN (z ▸ hr)) (fun r hr => by rw [hr]; exact upR_self) (fun _ _ => hb) (fun r r' h1 h2 _ => h1.trans h2.symm) (fun x hx => ⟨(hX x hx).1, (hX x hx).2.1, fun _ _ => (hX x hx).2.2.1⟩) hy ?_ hatt (fun r h' sb hr => ⟨ob, hob, fun _ => by rw [hr]; exact hnew h' sb⟩) (fun h' r o hr hd x => hs _ _ _ h' r o hr hd x) hq
  rintro x (⟨r, _, rfl⟩ | hx)
  · exact hB
  · exact (hX x hx).2.2.2
set_option maxHeartbeats 1000000 in
theorem call_init_vars {rg : Addr} {tr ur vr : Tok} {Rr : Result → Shared → Prop} (G : Bas w K B) (kf : KF K) (o : On B s.heap) (R : Rep prog w B D adr S s.heap) (rm : Rm A 1) (hph : S.ph = 0) (hr : IsRange s.heap rg 1 ((S.n : Int) + 1) 1 tr ur vr) (hrD : ¬ D rg) (hn : S.n ≤ 20)
    (hq : ∀ s' D' adr', Rep prog w B D' adr' { S with sent := fun _ => [], vars := List.replicate (S.n + 1) false, ph := 3 } s'.heap → Gr D D' s s' → adr' .slf = adr .slf → Rr (.ok (.ret .none)) s') :
    codeAny (model prog w) A (.call (.ref 83) ⟨[.ref (adr .slf), .ref rg], []⟩) Rr s := by
  obtain ⟨pm, ho⟩ := kf.fIV.fn.at_
  refine call_fn (binds := [("self", .ref (adr .slf)), ("variables", .ref rg)]) G o ho kf.fIV.fn.code rm.room (BindsTo.of_eq rfl) (locs rfl) (fun h₁ L F hL hk => ?_)
  have R₁ := R.keep hk
  have hLD : ¬ D L := R.new hL
  have hB := R.off
  have hrL : rg ≠ L := fun z => by rw [z] at hr; rw [show s.heap.get? L = some _ from hr] at hL; cases hL
  refine wpAny_execs_cons (asnU (by rfl) (wpAny_bind (eval_literals (n := S.n) G kf F rfl (hk _ _ hr) hn rm.deeper.hh fun s₂ ll C lv kl mC e₂ hl0 hC0 hlC hnC hl1 hl2 => post_use (B := B) hnC (Fr_no (s := ⟨h₁, s.gens, s.drawn, s.toks + 2, s.os⟩) F e₂) (fun z => ?_) ((frOn F).none hC0) fun s₃ F₃ e₃ => wpAny_pure ?_)))
  · obtain ⟨ob, q⟩ := Fr_live F; rw [z] at hC0; rw [show h₁.get? L = none from hC0] at q; cases q
  have hCL : C ≠ L := fun z => by obtain ⟨ob, q⟩ := Fr_live F; rw [z] at hC0; rw [show h₁.get? L = none from hC0] at q; cases q
  have hCs : s.heap.get? C = none := by
    cases q : s.heap.get? C with
    | none => rfl
    | some ob => rw [hk C ob q] at hC0; cases hC0
  have e2 : Eff No s s₂ := ⟨fun b o n q => e₂.keep b o n (hk b o q), e₂.gens, e₂.os⟩
  have e3 : Eff No s s₃ := e2.new e₃ fun b z => by rcases z with rfl | rfl; exact hL; exact hCs
  have hllL : ll ≠ L := fun z => by obtain ⟨ob, q⟩ := Fr_live F; rw [z] at hl0; rw [show h₁.get? L = none from hl0] at q; cases q
  have hl3 := e₃.keep _ _ (fun z => z.elim hllL hlC) hl1
  refine wpAny_execs_cons (plainObj_wpAny_Assign_Attribute (eval_sentinels (n := S.n) G kf F₃ updS_self hl3 hl2 hn rm.deeper.hh fun s₄ bd od sa e₄ hb0 hb1 hm hsa hinj => ?_))
  have e4 := e3.same e₄
  have F₄ := Fr_no F₃ e₄
  have R₄ : Rep prog w B D adr S s₄.heap := R.keep fun b o q => e4.all q
  have F₄on := (frOn F₄)
  refine ld F₄ rfl ?_
  have hs0 : ∀ {l}, IsLit S.n l → s.heap.get? (sa l) = none := fun hl => e3.none (hsa _ hl).1
  have hbd0 : s.heap.get? bd = none := e3.none hb0
  have hbdD : ¬ D bd := R.new hbd0
  have hsaD : ∀ {l}, IsLit S.n l → ¬ D (sa l) := fun hl => R.new (hs0 hl)
  have hlive : ∀ r, S.live r ↔ (r = .slf ∨ r = .dct ∨ r = .vset ∨ r = .que) := fun r => by
    cases r <;> simp [SV.live, hph]
  refine set_grow (S' := { S with sent := fun _ => [], ph := 1 }) (adr' := adr1 adr bd sa) (N := fun r => r = .sdct ∨ ∃ l, r = .sent l ∧ IsLit S.n l) (b := adr1 adr bd sa) (X := fun _ => False) G kf F₄on R₄ (by decide) (by omega) (by show 1 = S.ph + 1; omega) ?_ ?_ ?_ (fun _ _ => rfl) ?_ ?_ (fun _ h => h.elim) rfl ?_ ?_ ?_ ?_ ?_
  · intro r; cases r <;> simp [SV.live, hph]
  · rintro r (rfl | ⟨l, rfl, _⟩) z
    · have z' : 1 ≤ S.ph := z; omega
    · have z' : 1 ≤ S.ph := z.1; omega
  · intro r hr; rcases (hlive r).mp hr with rfl | rfl | rfl | rfl <;> rfl
  · rintro r (rfl | ⟨l, rfl, hl⟩)
    · exact hbdD
    · exact hsaD hl
  · rintro r r' (rfl | ⟨l, rfl, hl⟩) (rfl | ⟨l', rfl, hl'⟩) e
    · rfl
    · exact absurd e.symm (hsa _ hl').2.2
    · exact absurd e (hsa _ hl).2.2
    · rw [hinj l l' hl hl' e]
  · rintro x (⟨r, rfl | ⟨l, rfl, hl⟩, rfl⟩ | h)
    · exact o.none hbd0
    · exact o.none (hs0 hl)
    · exact h.elim
  · intro f a
    have ne : ∀ x : Str, x ≠ "sentinels" → updS f "sentinels" (.ref bd) x = f x := fun x hx => if_neg hx
    have no : ∀ {k : Nat}, 2 ≤ k → ¬ k ≤ 1 := fun h => by omega
    exact ⟨(ne _ (by decide)).trans a.vset, (ne _ (by decide)).trans a.unsat, (ne _ (by decide)).trans a.que, (ne _ (by decide)).trans a.syms, fun _ => updS_self, fun h => absurd h (no (by omega)), fun h => absurd h (no (by omega)), fun h => absurd h (no (by omega)), fun h => absurd h (no (by omega)), fun h => absurd h (no (by omega)), fun h => absurd h (no (by omega)), fun h => absurd h (no (by omega)), fun h => absurd h (no (by omega)), fun h => absurd h (no (by omega)), fun x hx => (ne x fun z => hx (by rw [z]; decide)).trans (a.rest x hx)⟩
  · rintro r h' sb (rfl | ⟨l, rfl, hl⟩)
    · exact ⟨od, hb1, fun _ => hm⟩
    · exact ⟨setNew w, (hsa l hl).2.1, fun _ => setNew_is⟩
  · intro h' r o hr hd x
    rcases (hlive r).mp hr with rfl | rfl | rfl | rfl
    · exact x
    · exact absurd rfl hd
    · exact x
    · exact x
  intro s₅ R₅ e₅
  have hdD : ∀ x, x = adr .dct → D x := fun x z => z ▸ R.sub .dct trivial
  have g₅ := (Gr.no (D := D) e4).roles (N := fun r => r = .sdct ∨ ∃ l, r = .sent l ∧ IsLit S.n l) (b := adr1 adr bd sa) (X := fun _ => False) (e₅.sub hdD) (by
    rintro r (rfl | ⟨l, rfl, hl⟩)
    · exact hbd0
    · exact hs0 hl) fun _ h => h.elim
  have F₅ := Fr_eff' F₄ e₅ (fun z => hLD (hdD _ z)) hdD hB
  have hl5 : s₅.heap.get? ll = some (listO lv.toArray kl) := e₅.keep _ _ (fun z => by
    have : D ll := hdD _ z
    exact absurd this (R.new (by
      cases q : s.heap.get? ll with
      | none => rfl
      | some ob => rw [hk ll ob q] at hl0; cases hl0))) (e₄.all hl3)
  have hLD5 : ¬ (fun x => D x ∨ (∃ r, (r = Role.sdct ∨ ∃ l, r = .sent l ∧ IsLit S.n l) ∧ adr1 adr bd sa r = x) ∨ False) L := by
    rintro (z | ⟨r, rfl | ⟨l, rfl, hl⟩, z⟩ | z)
    · exact hLD z
    · obtain ⟨ob, q⟩ : ∃ ob, s₃.heap.get? L = some ob := Fr_live F₃
      rw [← z, show s₃.heap.get? (adr1 adr bd sa .sdct) = none from hb0] at q; cases q
    · obtain ⟨ob, q⟩ : ∃ ob, s₃.heap.get? L = some ob := Fr_live F₃
      rw [← z, show s₃.heap.get? (adr1 adr bd sa (.sent l)) = none from (hsa l hl).1] at q; cases q
    · exact z
  generalize hD5 : (fun x => D x ∨ (∃ r, (r = Role.sdct ∨ ∃ l, r = .sent l ∧ IsLit S.n l) ∧ adr1 adr bd sa r = x) ∨ False) = D₅ at R₅ g₅ hLD5
  have hA5 : adr1 adr bd sa .slf = adr .slf := rfl
  generalize adr1 adr bd sa = adr₅ at R₅ hA5
  have hB5 := R₅.off
  refine wpAny_execs_cons (plainObj_wpAny_Assign_Attribute (eval_occ (n := S.n) F₅ updS_self hl5 hl2 hn rm.deeper.hh fun s₆ b6 o6 e₆ hb6 hb6' hm6 => ?_))
  have F₆ := Fr_no F₅ e₆
  have R₆ := R₅.keep fun b o q => e₆.all q
  have g₆ := g₅.trans (.no e₆)
  have hb6D : ¬ D₅ b6 := R₅.new hb6
  have hb6s : s.heap.get? b6 = none := Eff_fresh g₅.eff hb6 fun z => hb6D (g₅.up _ z)
  refine ld F₆ (by rw [updS_ne (by decide)]; exact congrArg some (congrArg Value.ref hA5.symm)) ?_
  refine set_one (S' := { S with sent := fun _ => [], ph := 2 }) (q := .odct) (b := b6) (X := fun _ => False) G kf (frOn F₆) R₆ (by decide) (by show (1 : Nat) ≤ 12; omega) rfl (fun r => by cases r <;> simp [SV.live]) (by simp [SV.live]) hb6D (o.none hb6s) hb6' (fun _ h => h.elim) rfl (fun f a => ?_) (fun h' sb => hm6) (fun D own ad h' r o hr hd x => by cases r <;> first | exact x | exact absurd rfl hd) fun s₇ R₇ e₇ => ?_
  · have ne : ∀ x : Str, x ≠ "occurrence_count" → updS f "occurrence_count" (.ref b6) x = f x := fun x hx => if_neg hx
    have no : ∀ {k : Nat}, 3 ≤ k → ¬ k ≤ 2 := fun h => by omega
    exact ⟨(ne _ (by decide)).trans a.vset, (ne _ (by decide)).trans a.unsat, (ne _ (by decide)).trans a.que, (ne _ (by decide)).trans a.syms, fun _ => (ne _ (by decide)).trans (a.sdct (Nat.le_refl 1)), fun _ => updS_self, fun h => absurd h (no (by omega)), fun h => absurd h (no (by omega)), fun h => absurd h (no (by omega)), fun h => absurd h (no (by omega)), fun h => absurd h (no (by omega)), fun h => absurd h (no (by omega)), fun h => absurd h (no (by omega)), fun h => absurd h (no (by omega)), fun x hx => (ne x fun z => hx (by rw [z]; decide)).trans (a.rest x hx)⟩
  have hdD5 : ∀ x, x = adr₅ .dct → D₅ x := fun x z => z ▸ R₅.sub .dct trivial
  have g₇ := g₆.roles (N := fun r => r = .odct) (b := fun _ => b6) (X := fun _ => False) (e₇.sub hdD5) (fun _ _ => hb6s) fun _ h => h.elim
  have F₇ := Fr_eff' F₆ e₇ (fun z => hLD5 (hdD5 _ z)) hdD5 hB5
  have hLD7 : ¬ (fun x => D₅ x ∨ (∃ r, r = Role.odct ∧ b6 = x) ∨ False) L := by
    rintro (z | ⟨r, rfl, z⟩ | z)
    · exact hLD5 z
    · obtain ⟨ob, q⟩ : ∃ ob, s₅.heap.get? L = some ob := Fr_live F₅
      rw [← z, hb6] at q; cases q
    · exact z
  generalize hD7 : (fun x => D₅ x ∨ (∃ r, r = Role.odct ∧ b6 = x) ∨ False) = D₇ at R₇ g₇ hLD7
  have hA7 : upR adr₅ .odct b6 .slf = adr .slf := hA5
  generalize upR adr₅ .odct b6 = adr₇ at R₇ hA7
  have hB7 := R₇.off
  refine wpAny_execs_cons (plainObj_wpAny_Assign_Attribute (wpAny_BinOp (List_ (args_cons (wpAny_Constant_bool (args_nil (new_list (by rw [sizeLine_eq]; simp) fun s₈ b8 hb8 hb8' e₈ => ?_)))))))
  have F₈ := Fr_no F₇ e₈
  have hrD7 : ¬ D₇ rg := fun z => (g₇.back rg z).elim hrD fun q => by rw [show s.heap.get? rg = _ from hr] at q; cases q
  have hr8 : IsRange s₈.heap rg 1 ((S.n : Int) + 1) 1 tr ur vr := e₈.all (g₇.eff.keep _ _ hrD hr)
  refine wpAny_BinOp (Call_ (nmB G kf F₈ (callWith_builtin1 (args_cons (ld F₈ (by rw [updS_ne (by decide)]; rfl) (args_nil ?_))))))
  refine call_len_range (n := S.n) hr8 (by rw [range_size]; omega) (by omega) (wpAny_Constant_int (P.add_int ?_))
  refine mulList (s := ⟨s₈.heap, s₈.gens, s₈.drawn, s₈.toks + 1 + 1 + 1 + 1, s₈.os⟩) hb8' (by omega) (by omega) (by simp; omega) fun s₉ b9 hb9 hb9' e₉ => ?_
  have e79 : Eff No s₇ s₉ := ⟨fun b o n q => e₉.keep b o n (e₈.keep b o n q), e₉.gens.trans e₈.gens, e₉.os.trans e₈.os⟩
  have F₉ := Fr_no F₇ e79
  have R₉ := R₇.keep fun b o q => e79.all q
  have g₉ := g₇.trans (.no e79)
  have hb9n : s₇.heap.get? b9 = none := e₈.none hb9
  have hb9D : ¬ D₇ b9 := R₇.new hb9n
  have hb9s : s.heap.get? b9 = none := Eff_fresh g₇.eff hb9n fun z => hb9D (g₇.up _ z)
  have hrep : ∀ (k : Nat) (acc : Array Value), List.foldl (fun x1 x2 => x1 ++ x2) acc (List.replicate k #[Value.bool false]) = acc ++ ((List.replicate k false).map Value.bool).toArray := by
    intro k
    induction k with
    | zero => intro acc; simp
    | succ k ih => intro acc; rw [List.replicate_succ, List.foldl_cons, ih, List.replicate_succ, List.map_cons, Array.append_assoc]; congr 1; simp
  have hvars : s₉.heap.get? b9 = some (listO ((List.replicate (S.n + 1) false).map Value.bool).toArray 0) := by
    rw [hb9']
    have e1 : (if ([Value.bool false].toArray).isEmpty = true then 0 else ((S.n : Int) + 1).toNat) = S.n + 1 := by rw [if_neg (by decide)]; omega
    have e2 := hrep (S.n + 1) #[]
    rw [e1, e2]; simp
  refine ld F₉ (by rw [updS_ne (by decide)]; exact congrArg some (congrArg Value.ref hA7.symm)) ?_
  refine set_one (S' := { S with sent := fun _ => [], vars := List.replicate (S.n + 1) false, ph := 3 }) (q := .vars) (b := b9) (X := fun _ => False) G kf (frOn F₉) R₉ (by decide) (by show (2 : Nat) ≤ 12; omega) rfl (fun r => by cases r <;> simp [SV.live]) (by simp [SV.live]) hb9D (o.none hb9s) hvars (fun _ h => h.elim) rfl (fun f a => ?_) (fun h' sb => ⟨0, rfl⟩) (fun D own ad h' r o hr hd x => by cases r <;> first | exact x | exact absurd rfl hd | exact absurd (show (3 : Nat) ≤ 2 from hr) (by omega)) fun s₁₀ R₁₀ e₁₀ => ?_
  · have ne : ∀ x : Str, x ≠ "variable_set" → updS f "variable_set" (.ref b9) x = f x := fun x hx => if_neg hx
    have no : ∀ {k : Nat}, 4 ≤ k → ¬ k ≤ 3 := fun h => by omega
    exact ⟨(ne _ (by decide)).trans a.vset, (ne _ (by decide)).trans a.unsat, (ne _ (by decide)).trans a.que, (ne _ (by decide)).trans a.syms, fun _ => (ne _ (by decide)).trans (a.sdct (by show (1 : Nat) ≤ 2; omega)), fun _ => (ne _ (by decide)).trans (a.odct (Nat.le_refl 2)), fun _ => updS_self, fun h => absurd h (no (by omega)), fun h => absurd h (no (by omega)), fun h => absurd h (no (by omega)), fun h => absurd h (no (by omega)), fun h => absurd h (no (by omega)), fun h => absurd h (no (by omega)), fun h => absurd h (no (by omega)), fun x hx => (ne x fun z => hx (by rw [z]; decide)).trans (a.rest x hx)⟩
  have g₁₀ := g₉.roles (N := fun r => r = .vars) (b := fun _ => b9) (X := fun _ => False) (e₁₀.sub fun x z => z ▸ R₇.sub .dct trivial) (fun _ _ => hb9s) fun _ h => h.elim
  exact wpAny_execs_nil (hq s₁₀ _ _ R₁₀ g₁₀ hA7)
end
end Dp
end
section
open PySem PySem.W PySem.Calls PyProof.Rows
namespace Dp
abbrev icEnv (L : Addr) : Env := envOf ("SATSolver." ++ "_initialize_clauses") (dScope (meth "_initialize_clauses")) L 88 (.ref 87)
def icBody : List Stmt := dBody (meth "_initialize_clauses")
def icScope : Scope := dcScope (match stAt icBody 0 with | .Assign _ v _ => v | _ => .Name "" default)
section
variable {prog : Program} {w : World} {K : Frag} {B : Heap} {A : Around} {E : Value → Shared → Prop} {s s' s₁ s₂ : Shared} {L a l x C : Addr} {m m' : Str → Option Value} {adr adr' : Role → Addr} {D D' : Addr → Prop} {S S' : SV} {h h' : Heap}
theorem eval_clauses {cl0 : Addr} {k0 : Nat} {xs : List (Addr × List Int)} {a1 a2 a3 b1 b2 c1 : Pos} {Q : Value → Shared → Prop} (G : Bas w K B) (kf : KF K) (F : Fr B L s.heap m) (hv : m "clauses" = some (.ref cl0)) (hl : s.heap.get? cl0 = some (listO (xs.map fun p => Value.ref p.1).toArray k0)) (hsets : ∀ p ∈ xs, ∃ o, s.heap.get? p.1 = some o ∧ IntSet w o p.2 ∧ p.2.length < 1000) (hz : xs.length ≤ 1000) (hh : A.handled = none)
    (hq : ∀ s' b k (outs : List (Addr × List Int)), Eff No s s' → s.heap.get? b = none → s'.heap.get? b = some (listO (outs.map fun p => Value.ref p.1).toArray k) → F2 (fun p q => q.2.Perm p.2) xs outs → (∀ q ∈ outs, s.heap.get? q.1 = none ∧ q.1 ≠ b ∧ ∃ oc, s'.heap.get? q.1 = some oc ∧ IntList oc q.2) → Q (.ref b) s') :
    wpAny (model prog w) A (eval (.ListComp (.Call (.Name "list" a1) [.Name "clause" a2] [] a3) [⟨.Name "clause" b1, .Name "clauses" b2, [], 0⟩] icScope c1) (icEnv L)) Q E s := by
  rw [eval_ListComp]
  have h1 : closureFor icScope (icEnv L) = pure [] := closureFor_none (by decide)
  refine lcomp (V := fun (p : Addr × List Int) v => v = .ref p.1) (cl := []) hh h1 rfl (by decide) (by intro _; rfl) ?_
  refine ld F hv ?_
  refine iter_list (V := fun (p : Addr × List Int) v => v = .ref p.1) (xs := xs) (listO_is hl) (f2_map _ _) fun s₂ it T e₂ hit IT hT => ?_
  refine ⟨it, [it], [cl0], T, xs, rfl, IT, hT, fun b C hb hC hbC s₃ e₃ hp3 hCe hbe => ?_⟩
  have e3 := e₂.same e₃
  have hbn := e₂.none hb
  have hCn := e₂.none hC
  have hits : s.heap.get? it = none := hit
  have hlb : cl0 ≠ b := fun z => by rw [← z, hl] at hbn; cases hbn
  have hlC : cl0 ≠ C := fun z => by rw [← z, hl] at hCn; cases hCn
  have hbit : b ≠ it := fun z => by obtain ⟨o, q⟩ := IT.live hT it IT.mem; rw [← z, hb] at q; cases q
  have hCit : C ≠ it := fun z => by obtain ⟨o, q⟩ := IT.live hT it IT.mem; rw [← z, hC] at q; cases q
  refine ⟨fun r ys s' => ∃ (done outs : List (Addr × List Int)), done ++ r = xs ∧ F2 (fun p q => q.2.Perm p.2) done outs ∧ ys = outs.map (fun p => Value.ref p.1) ∧ (∀ q ∈ outs, s.heap.get? q.1 = none ∧ q.1 ≠ b ∧ q.1 ≠ C ∧ q.1 ≠ it ∧ ∃ oc, s'.heap.get? q.1 = some oc ∧ IntList oc q.2) ∧ Eff No s s', ⟨[], [], rfl, .nil, rfl, fun a ha => (nomatch ha), e3⟩, ?_, ?_, ?_, ?_⟩
  · rintro y r ys s₅ s₆ v m' k ⟨done, outs, hdone, hf2, rfl, houts, e5⟩ rfl e6 hC6 hlive hacc
    have e6' : Eff No s s₆ := eff_new e5 e6 fun x z => by rw [z]; exact hits
    refine wpAny_assign_Name (wpAny_storeName_local (by rfl) hC6 (fun h₇ hn7 sb₇ => ?_) (by rfl))
    refine wpAny_tests_nil ?_
    rw [if_pos rfl]
    have e67 : Eff (fun x => x = C) s₆ { s₆ with heap := h₇, toks := s₆.toks + 1 } := sb_eff sb₇ rfl
    generalize hs7 : ({ s₆ with heap := h₇, toks := s₆.toks + 1 } : Shared) = s₇ at e67
    have hn7' : s₇.heap.Ns C (fun z => if z = Str.ofString "clause" then some (.ref y.1) else m' z) := by subst hs7; exact hn7
    have e7 : Eff No s s₇ := eff_new e6' e67 fun x z => by rw [z]; exact hCn
    have F7 := Fr_no F e7
    obtain ⟨oy, hy1, hy2, hy3⟩ := hsets y (by rw [← hdone]; simp)
    refine Call_ (Nm.name (s := s₇) (Nm.bui G kf (frOn F7)) (callWith_type1 (args_cons (Nm.name (s := s₇) (Nm.loc hn7' (if_pos rfl)) (args_nil ?_)))))
    refine call_list_set hh (e7.all hy1) hy2 (by show _ < 4096; omega) fun s₈ dl vs k₈ ms e₈ hd8 hd8' hi8 hp8 => ?_
    have hC7 : ∃ o, s₇.heap.get? C = some o := by obtain ⟨o, _, _, q, _⟩ := hn7'; exact ⟨o, q⟩
    have hb7 : ∃ o, s₇.heap.get? b = some o := ⟨_, e67.keep _ _ hbC hacc⟩
    have hi7 : ∃ o, s₇.heap.get? it = some o := by
      obtain ⟨o, q⟩ := hlive it (by simp); exact ⟨o, e67.keep _ _ (fun z => hCit z.symm) q⟩
    have ne : ∀ {c}, (∃ o, s₇.heap.get? c = some o) → dl ≠ c := fun ⟨o, q⟩ z => by rw [← z, hd8] at q; cases q
    refine ⟨fun x => x = C, _, ⟨fun c o n q => e₈.all (e67.keep c o n q), e₈.gens.trans e67.gens, e₈.os.trans e67.os⟩, ?_, hn7'.at' fun o q => e₈.all q, ?_, fun s₉ e₉ => ⟨done ++ [y], outs ++ [(dl, ms)], by rw [List.append_assoc]; exact hdone, hf2.append (.cons hp8 .nil), by rw [List.map_append]; rfl, ?_, ?_⟩⟩
    · rintro x (hx | hx | hx) z
      · rw [List.mem_singleton] at hx; exact hCit (z.symm.trans hx)
      · rw [List.mem_singleton] at hx; exact hlC (hx.symm.trans z)
      · exact hbC (hx.symm.trans z)
    · rw [List.length_map, sizeLine_eq]
      have h1 := hf2.length
      have h2 : done.length ≤ xs.length := by rw [← hdone]; simp
      omega
    · intro q hq'
      rcases List.mem_append.mp hq' with z | z
      · obtain ⟨x1, x2, x3, x4, oc, x5, x6⟩ := houts q z
        exact ⟨x1, x2, x3, x4, oc, e₉.keep _ _ x2 (e₈.all (e67.keep _ _ x3 (e6.keep _ _ x4 x5))), x6⟩
      · rw [List.mem_singleton] at z; subst z
        exact ⟨e7.none hd8, ne hb7, ne hC7, ne hi7, _, e₉.keep _ _ (ne hb7) hd8', vs, k₈, rfl, hi8⟩
    · exact eff_new (e7.same e₈) e₉ fun x z => by rw [z]; exact hbn
  · rintro ys s₅ s₆ k ⟨done, outs, hdone, hf2, rfl, houts, e5⟩ e6 hacc ⟨m', hm⟩
    rw [List.append_nil] at hdone; subst hdone
    have e6' : Eff No s s₆ := eff_new e5 e6 fun b z => by rw [z]; exact hits
    refine post_none hm fun s₇ e₇ => ?_
    refine hq s₇ b k outs (eff_new e6' e₇ fun x z => by rw [z]; exact hCn) hbn (e₇.keep _ _ hbC hacc) hf2 fun q hq' => ?_
    obtain ⟨x1, x2, x3, x4, oc, x5, x6⟩ := houts q hq'
    exact ⟨x1, x2, oc, e₇.keep _ _ x3 (e6.keep _ _ x4 x5), x6⟩
  · intro z; rw [List.mem_singleton] at z; exact hlC z.symm
  · intro z; rw [List.mem_singleton] at z; exact hlb z.symm
end
end Dp
end
section
open PySem PySem.W PySem.Calls PyProof.Rows
namespace Dp
section
variable {prog : Program} {w : World} {K : Frag} {B : Heap} {A : Around} {E : Value → Shared → Prop} {s s' s₁ s₂ : Shared} {L a l x C : Addr} {m m' : Str → Option Value} {adr adr' : Role → Addr} {D D' : Addr → Prop} {S S' : SV} {h h' : Heap} {env : Env}
theorem loop_enum {R : Result → Shared → Prop} {xi xv : Str} {pi pv pt : Pos} {x1 : Nat} {body : List Stmt} {e it l : Addr} {items : List Value} {kl : Nat} (hh : A.handled = none) (hxi : env.kindOf xi = some .local) (hxv : env.kindOf xv = some .local)
    (hp : (env.scope.kind == .class || (env.scope.kind == .module && env.locals != env.globals)) = false)
    (hei : e ≠ it) (heL : e ≠ env.locals) (hiL : it ≠ env.locals) (hlL : l ≠ env.locals) (hle : l ≠ e) (hli : l ≠ it) (hBe : B.get? e = none) (hBi : B.get? it = none)
    (he : IsEnum s.heap e it 0 .none) (hit : s.heap.IsListIter it l 0) (hl : s.heap.get? l = some (listO items.toArray kl)) (F : Fr B env.locals s.heap m)
    (I : Nat → (Str → Option Value) → Shared → Prop) (h0 : I 0 m s)
    (step : ∀ i v tk m₁ s₁ s₂, items[i]? = some v → I i m₁ s₁ → Fr B env.locals s₂.heap (fun y => if y = xv then some v else if y = xi then some (.int i tk) else m₁ y) → Eff (fun b => b = e ∨ b = it ∨ b = env.locals) s₁ s₂ → (∃ o, s₂.heap.get? e = some o) → (∃ o, s₂.heap.get? it = some o) →
      wpAny (model prog w) A (execs body env) (fun f s₃ => match f with
        | .next | .cont => ∃ m' P, Fr B env.locals s₃.heap m' ∧ I (i + 1) m' s₃ ∧ Eff P s₂ s₃ ∧ ¬ P e ∧ ¬ P it ∧ ¬ P l
        | _ => False) (fun _ _ => False) s₂)
    (done : ∀ m₁ s₁ s₂, I items.length m₁ s₁ → Fr B env.locals s₂.heap m₁ → Eff (fun b => b = it) s₁ s₂ → R (.ok .next) s₂) :
    codeAny (model prog w) A (.forLoop (.Tuple [.Name xi pi, .Name xv pv] x1 pt) (.ref e) body [] env) R s := by
  refine codeAny_forLoop_any
    (fun k s' => ∃ m' i old, IsEnum s'.heap e it ((i : Nat) : Int) old ∧ s'.heap.IsListIter it l i ∧ s'.heap.get? l = some (listO items.toArray kl) ∧ Fr B env.locals s'.heap m' ∧ I i m' s' ∧ i ≤ items.length ∧ k = items.length + 1 - i) ?_ (items.length + 1)
    ⟨m, 0, .none, he, hit, hl, F, h0, Nat.zero_le _, rfl⟩
  rintro k s' ⟨m', i, old, he', hit', hl', F', hI, hi, rfl⟩
  have hl'' : s'.heap.IsList l items.toArray := listO_is hl'
  cases hv : items[i]? with
  | none =>
    have hsz : i = items.length := by
      rcases Nat.lt_or_ge i items.length with q | q
      · rw [List.getElem?_eq_getElem q] at hv; cases hv
      · omega
    subst hsz
    refine wpAny_pyNext_enum_end hh he' hit' hl'' (by rw [List.getElem?_toArray]; exact hv) fun h₁ he₁ => wpAny_execs_nil ?_
    exact done m' s' _ hI ⟨F'.ns.at' fun o q => he₁ _ o (Ne.symm hiL) q, fun b o q => he₁ b o (fun z => by rw [z, hBi] at q; cases q) (F'.keep b o q), F'.above⟩ ⟨fun b o n q => he₁ b o n q, rfl, rfl⟩
  | some v =>
    have hlt : i < items.length := by rcases Nat.lt_or_ge i items.length with q | q; exact q; rw [List.getElem?_eq_none q] at hv; cases hv
    have heH : e < s'.heap.objs.size := Heap.lt_size he'
    obtain ⟨oi, hoi, _⟩ := id hit'
    have hiH : it < s'.heap.objs.size := Heap.lt_size hoi
    refine wpAny_pyNext_enum_item he' hit' hl'' (by rw [List.getElem?_toArray]; exact hv) hei fun h₁ heo hit₁ ht₁ hz₁ hk₁ => ?_
    refine wpAny_letOwnedTupleGo_enum heo fun h₂ he₂ hs₂ => ?_
    replace hs₂ : Heap.SameBut e h₁ h₂ := hs₂
    have ht₂ : h₂.IsTuple s'.heap.objs.size #[.int i s'.toks, v] := ⟨_, (hs₂.2 _ (Nat.ne_of_gt heH)).trans ht₁, rfl, _, rfl⟩
    have hz₂ : h₂.objs.size = s'.heap.objs.size + 1 := hs₂.1.trans hz₁
    refine wpAny_assign_Tuple hh ht₂ rfl rfl fun h₃ hx₃ => ?_
    replace hx₃ : Heap.ExtBut h₂.objs.size h₂ h₃ := hx₃
    have old₃ : ∀ b o, b < s'.heap.objs.size → h₂.get? b = some o → h₃.get? b = some o := fun b o hb x => hx₃ b o (by rw [hz₂]; exact Nat.ne_of_lt (Nat.lt_succ_of_lt hb)) x
    have keep₃ : ∀ b o, b ≠ e → b ≠ it → s'.heap.get? b = some o → h₃.get? b = some o := fun b o n1 n2 q => old₃ b o (Heap.lt_size q) ((hs₂.2 b n1).trans (hk₁ b o n1 n2 q))
    have hn₃ : h₃.Ns env.locals m' := F'.ns.at' fun o q => keep₃ _ o (Ne.symm heL) (Ne.symm hiL) q
    show wpAny _ A (do holding [v] (assign (.Name xi pi) env (.int i s'.toks)); do holding [] (assign (.Name xv pv) env v); pure ()) _ _ _
    refine wpAny_bind (wpAny_holding (wpAny_assign_Name (wpAny_storeName_local hxi hn₃ (fun h₄ hn₄ hs₄ => ?_) hp)))
    replace hs₄ : Heap.SameBut env.locals h₃ h₄ := hs₄
    refine wpAny_bind (wpAny_holding (wpAny_assign_Name (wpAny_storeName_local hxv hn₄ (fun h₅ hn₅ hs₅ => wpAny_pure ?_) hp)))
    replace hs₅ : Heap.SameBut env.locals h₄ h₅ := hs₅
    have keep₅ : ∀ b o, b ≠ env.locals → h₃.get? b = some o → h₅.get? b = some o := fun b o n q => (hs₅.2 b n).trans ((hs₄.2 b n).trans q)
    have nL : ∀ b o, B.get? b = some o → b ≠ e ∧ b ≠ it ∧ b ≠ env.locals := fun b o q => ⟨fun z => (by rw [z, hBe] at q; cases q), fun z => (by rw [z, hBi] at q; cases q), fun z => by have := Heap.lt_size q; rw [z] at this; exact absurd this (Nat.not_lt.mpr F'.above)⟩
    have F₅ : Fr B env.locals h₅ (fun y => if y = xv then some v else if y = xi then some (.int i s'.toks) else m' y) := ⟨hn₅, fun b o q => keep₅ b o (nL b o q).2.2 (keep₃ b o (nL b o q).1 (nL b o q).2.1 (F'.keep b o q)), F'.above⟩
    have he₅ : IsEnum h₅ e it ((i : Int) + 1) v := keep₅ e _ heL (old₃ e _ heH he₂)
    have hit₅ : h₅.IsListIter it l (i + 1) := by
      obtain ⟨o, q, r⟩ := hit₁
      exact ⟨o, keep₅ it o hiL (old₃ it o hiH ((hs₂.2 it (Ne.symm hei)).trans q)), r⟩
    have hl₅ : h₅.get? l = some (listO items.toArray kl) := keep₅ l _ hlL (keep₃ l _ hle hli hl')
    refine wpAny_mono (noexc (step i v s'.toks m' s' _ hv hI F₅ ⟨fun b o n q => keep₅ b o (fun z => n (.inr (.inr z))) (keep₃ b o (fun z => n (.inl z)) (fun z => n (.inr (.inl z))) q), rfl, rfl⟩ ⟨_, he₅⟩ (let ⟨o, q, _⟩ := hit₅; ⟨o, q⟩))) (fun f s₃ h₆ => ?_) fun _ _ x => x
    have fin : (∃ m' P, Fr B env.locals s₃.heap m' ∧ I (i + 1) m' s₃ ∧ Eff P { s' with heap := h₅, toks := s'.toks + 1 + 1 + 1 } s₃ ∧ ¬ P e ∧ ¬ P it ∧ ¬ P l) → ∃ mm, mm < items.length + 1 - i ∧ ∃ m' j old, IsEnum s₃.heap e it ((j : Nat) : Int) old ∧ s₃.heap.IsListIter it l j ∧ s₃.heap.get? l = some (listO items.toArray kl) ∧ Fr B env.locals s₃.heap m' ∧ I j m' s₃ ∧ j ≤ items.length ∧ mm = items.length + 1 - j := by
      rintro ⟨m₂, P, F₆, hI₆, e6, p1, p2, p3⟩
      refine ⟨items.length + 1 - (i + 1), by omega, m₂, i + 1, v, ?_, ?_, e6.keep l _ p3 hl₅, F₆, hI₆, hlt, rfl⟩
      · have : ((i + 1 : Nat) : Int) = (i : Int) + 1 := by push_cast; rfl
        rw [this]; exact e6.keep e _ p1 he₅
      · obtain ⟨o, q, r⟩ := hit₅
        exact ⟨o, e6.keep it o p2 q, r⟩
    cases f with
    | next => exact fin h₆
    | cont => exact fin h₆
    | brk => exact h₆.elim
    | ret v => exact h₆.elim
end
end Dp
end
section
open PySem PySem.W PySem.Calls PyProof.Rows
namespace Dp
def stepI (S : SV) (i : Nat) (cl : List Int) : SV :=
  if cl.length = 1 then { S with que := S.que ++ [cl.headD 0] }
  else { S with sent := updI (updI S.sent (cl.headD 0) (addI (S.sent (cl.headD 0)) i)) (cl.getLastD 0) (addI (updI S.sent (cl.headD 0) (addI (S.sent (cl.headD 0)) i) (cl.getLastD 0)) i) }
def foldI : Nat → List (List Int) → SV → SV
  | _, [], S => S
  | i, cl :: r, S => foldI (i + 1) r (stepI S i cl)
theorem stepI_same {S : SV} {i : Nat} {cl : List Int} : (stepI S i cl).n = S.n ∧ (stepI S i cl).ph = S.ph ∧ (stepI S i cl).cls = S.cls ∧ (stepI S i cl).que.length ≤ S.que.length + 1 := by
  unfold stepI; split <;> simp
structure IcInv (S : SV) (i : Nat) : Prop where
  sent : ∀ l, IsLit S.n l → (S.sent l).Nodup ∧ ∀ c ∈ S.sent l, ∃ j : Nat, c = j ∧ j < i
  que : S.que.length ≤ i
theorem IcInv.step {S : SV} {i : Nat} {cl : List Int} (h : IcInv S i) (hl : ∀ x ∈ cl, IsLit S.n x) (hne : cl ≠ []) : IcInv (stepI S i cl) (i + 1) := by
  have hh : cl.headD 0 ∈ cl := by cases cl with | nil => exact absurd rfl hne | cons a r => simp
  have hz : cl.getLastD 0 ∈ cl := by
    rcases snoc_or cl with z | ⟨q, z, rfl⟩
    · exact absurd z hne
    · simp
  unfold stepI
  split
  · refine ⟨fun l hl' => ⟨(h.sent l hl').1, fun c hc => ?_⟩, by have := h.que; simp; omega⟩
    obtain ⟨j, a, b⟩ := (h.sent l hl').2 c hc
    exact ⟨j, a, by omega⟩
  · refine ⟨fun l hl' => ?_, by have := h.que; show S.que.length ≤ i + 1; omega⟩
    have key : ∀ l, IsLit S.n l → (updI S.sent (cl.headD 0) (addI (S.sent (cl.headD 0)) i) l).Nodup ∧ ∀ c ∈ updI S.sent (cl.headD 0) (addI (S.sent (cl.headD 0)) i) l, ∃ j : Nat, c = j ∧ j < i + 1 := fun l hl' => by
      unfold updI
      split
      · refine ⟨nodup_addI (h.sent _ (hl _ hh)).1 _, fun c hc => ?_⟩
        rcases mem_addI.mp hc with z | z
        · obtain ⟨j, a, b⟩ := (h.sent _ (hl _ hh)).2 c z; exact ⟨j, a, by omega⟩
        · exact ⟨i, z, by omega⟩
      · refine ⟨(h.sent l hl').1, fun c hc => ?_⟩
        obtain ⟨j, a, b⟩ := (h.sent l hl').2 c hc; exact ⟨j, a, by omega⟩
    show (updI (updI S.sent (cl.headD 0) (addI (S.sent (cl.headD 0)) i)) (cl.getLastD 0) _ l).Nodup ∧ _
    by_cases e : l = cl.getLastD 0
    · have hk := key _ (hl _ hz)
      have e1 : updI (updI S.sent (cl.headD 0) (addI (S.sent (cl.headD 0)) i)) (cl.getLastD 0) (addI (updI S.sent (cl.headD 0) (addI (S.sent (cl.headD 0)) i) (cl.getLastD 0)) i) l = addI (updI S.sent (cl.headD 0) (addI (S.sent (cl.headD 0)) i) (cl.getLastD 0)) i := if_pos e
      show (updI (updI S.sent (cl.headD 0) (addI (S.sent (cl.headD 0)) i)) (cl.getLastD 0) (addI (updI S.sent (cl.headD 0) (addI (S.sent (cl.headD 0)) i) (cl.getLastD 0)) i) l).Nodup ∧ ∀ c ∈ updI (updI S.sent (cl.headD 0) (addI (S.sent (cl.headD 0)) i)) (cl.getLastD 0) (addI (updI S.sent (cl.headD 0) (addI (S.sent (cl.headD 0)) i) (cl.getLastD 0)) i) l, _
      rw [e1]
      refine ⟨nodup_addI hk.1 _, fun c hc => ?_⟩
      rcases mem_addI.mp hc with z | z
      · exact hk.2 c z
      · exact ⟨i, z, by omega⟩
    · have e1 : ∀ v, updI (updI S.sent (cl.headD 0) (addI (S.sent (cl.headD 0)) i)) (cl.getLastD 0) v l = updI S.sent (cl.headD 0) (addI (S.sent (cl.headD 0)) i) l := fun v => if_neg e
      show (updI (updI S.sent (cl.headD 0) (addI (S.sent (cl.headD 0)) i)) (cl.getLastD 0) _ l).Nodup ∧ ∀ c ∈ updI (updI S.sent (cl.headD 0) (addI (S.sent (cl.headD 0)) i)) (cl.getLastD 0) (addI (updI S.sent (cl.headD 0) (addI (S.sent (cl.headD 0)) i) (cl.getLastD 0)) i) l, _
      rw [e1]
      exact key l hl'
section
variable {prog : Program} {w : World} {K : Frag} {B : Heap} {A : Around} {E : Value → Shared → Prop} {s s' s₁ s₂ : Shared} {L a l x C : Addr} {m m' : Str → Option Value} {adr adr' : Role → Addr} {D D' : Addr → Prop} {S S' : SV} {h h' : Heap} {env : Env}
def icLoop : List Stmt := forBody (stAt icBody 1)
set_option maxHeartbeats 1000000 in
theorem ic_turn {i : Nat} {tk : Tok} {ca : Addr} {vs : List Value} {cl : List Int} {Q : Flow → Shared → Prop} (G : Bas w K B) (kf : KF K) (F : Fr B L s.heap m) (R : Rep prog w B D adr S s.heap) (rm : Rm A 2) (hph : S.ph = 4) (hn : S.n ≤ 20) (hLD : ¬ D L) (hi : i < 1000) (I : IcInv S i)
    (hm : m "self" = some (.ref (adr .slf))) (hmi : m "i" = some (.int i tk)) (hmc : m "clause" = some (.ref ca)) (hca : s.heap.IsList ca vs.toArray) (hcD : D ca) (hco : ¬ ownOf adr S ca) (hvs : IntsAre vs cl) (hne : cl ≠ []) (hlit : ∀ x ∈ cl, IsLit S.n x) (hcz : cl.length ≤ 1000)
    (hq : ∀ s' m', Fr B L s'.heap m' → m' "self" = some (.ref (adr .slf)) → Rep prog w B D adr (stepI S i cl) s'.heap → Eff (fun b => ownOf adr S b ∧ b ≠ adr .cls ∨ b = L) s s' → ∀ f, f = .next ∨ f = .cont → Q f s') :
    wpAny (model prog w) A (execs icLoop (icEnv L)) Q E s := by
  have hvl := hvs.length
  have hB := R.off
  have hcL : ca ≠ L := fun z => hLD (z ▸ hcD)
  refine wpAny_execs_cons (wpAny_If (wpAny_isTrue_Compare1 (wpAny_Constant_int (Call_ (nmB (s := { s with toks := s.toks + 1 }) G kf F (callWith_builtin1 (args_cons (ld F hmc (args_nil ?_)))))))))
  refine call_len_list (s := { s with toks := s.toks + 1 }) hca (by rw [List.size_toArray]; omega) (P.eq_int (wpAny_truthy_bool ?_))
  rw [List.size_toArray, hvl]
  have e01 : Eff No s { s with toks := s.toks + 1 + 1 } := ⟨fun b o _ q => q, rfl, rfl⟩
  obtain ⟨a, ha⟩ : ∃ a, cl[0]? = some a := by cases cl with | nil => exact absurd rfl hne | cons a r => exact ⟨a, rfl⟩
  have hhd : cl.headD 0 = a := by cases cl with | nil => exact absurd rfl hne | cons a' r => simp at ha; simpa using ha
  obtain ⟨ta, hva⟩ := ints_ref hvs ha
  have hal : IsLit S.n a := hlit a (List.mem_of_getElem? ha)
  by_cases h1 : cl.length = 1
  · rw [if_pos (by show ((1 : Int) == ((cl.length : Nat) : Int)) = true; rw [h1]; rfl)]
    obtain ⟨oq, q1, vq, kq, rfl, qi⟩ := R.o_que
    refine wpAny_execs_cons (wpAny_Expr ?_)
    refine MethodCall_ ?_
    refine attr_name (s := { s with toks := s.toks + 1 + 1 + 1 }) G F kf.S hm R.h_que (by decide) rfl ?_
    refine meth_list (s := { s with toks := s.toks + 1 + 1 + 1 + 1 }) q1 PySem.F.slot_list_append PySem.F.type_list_append ?_
    refine callWith_method1 ?_ se_sub plain0
    refine args_cons ?_ se_sub
    refine Subscript_ ?_
    refine ld F hmc (wpAny_Constant_int ?_)
    refine itemList (k := 0) hca hva (by rw [hvl, sizeLine_eq]; omega) (args_nil ?_)
    have hql := I.que
    refine list_push (s := { s with toks := s.toks + 1 + 1 + 1 + 1 + 1 }) q1 (by rw [sizeLine_eq, List.size_toArray, qi.length]; omega) fun h₆ k₆ sb₆ ho₆ => ?_
    have R₆ := R.u_que sb₆ ho₆ (ns := S.que ++ [a]) ⟨vq ++ [.int a ta], k₆, by simp, qi.append (.cons a ta .nil)⟩
    have e6 : Eff (fun b => ownOf adr S b ∧ b ≠ adr .cls) s ⟨h₆, s.gens, s.drawn, s.toks + 1 + 1 + 1 + 1 + 1, s.os⟩ := sb_eff (tk := s.toks + 1 + 1 + 1 + 1 + 1) sb₆ ⟨⟨.que, trivial, rfl⟩, fun z => by have := R.inj .que .cls trivial (by show 4 ≤ S.ph; omega) z; cases this⟩
    have F₆ := Fr_eff' (P := fun b => ownOf adr S b ∧ b ≠ adr .cls) F e6 (fun z => hLD (R.dom z.1)) (fun b z => R.dom z.1) hB
    refine wpAny_execs_cons (wpAny_Continue (hq _ m F₆ hm ?_ (e6.sub fun b z => .inl z) _ (.inr rfl)))
    unfold stepI; rw [if_pos h1, hhd]; exact R₆
  · rw [if_neg (by show ¬ ((1 : Int) == ((cl.length : Nat) : Int)) = true; rw [beq_iff_eq]; omega)]
    refine wpAny_execs_nil ?_
    obtain ⟨q, z, hqz⟩ : ∃ q z, cl = q ++ [z] := (snoc_or cl).resolve_left hne
    have hzd : cl.getLastD 0 = z := by rw [hqz]; simp
    have hzl : IsLit S.n z := hlit z (by rw [hqz]; simp)
    have lsent : ∀ {l : Int}, IsLit S.n l → S.live (.sent l) := fun h => ⟨by omega, h⟩
    have ownS : ∀ {l : Int}, IsLit S.n l → (fun b => ownOf adr S b ∧ b ≠ adr .cls) (adr (.sent l)) := fun h => ⟨⟨_, lsent h, rfl⟩, fun z => by have := R.inj _ .cls (lsent h) (by show 4 ≤ S.ph; omega) z; cases this⟩
    have szs : ∀ {l}, IsLit S.n l → (S.sent l).length ≤ i := fun h => nodup_ints_le (I.sent _ h).1 (I.sent _ h).2
    obtain ⟨od, d1, d2⟩ := R.o_sdct (by omega)
    obtain ⟨os, c1, c2⟩ := R.o_sent (by omega) (l := a) hal
    refine wpAny_execs_cons (wpAny_Expr ?_)
    refine MethodCall_ ?_
    refine Subscript_ ?_
    refine attr_name (s := { s with toks := s.toks + 1 + 1 + 1 }) G F kf.S hm (R.h_sdct (by omega)) (by decide) rfl ?_
    refine Subscript_ (ld F hmc (wpAny_Constant_int ?_))
    refine itemList (k := 0) hca hva (by rw [hvl, sizeLine_eq]; omega) ?_
    refine itemMap d1 d2 (mem_litsOf.mpr hal) fun v hv => ?_
    subst hv
    refine getMethod_add c1 c2 (callWith_method1 (args_cons (ld F hmi (args_nil ?_))))
    refine call_add c1 c2 (by have := szs hal; show _ + 1 < 4096; omega) fun h₇ o₇ sb₇ ho₇ x₇ => ?_
    have R₇ := R.u_sent (by omega) hal sb₇ ho₇ x₇
    generalize ht7 : s.toks + 1 + 1 + 1 + 1 + 1 + 1 + 1 = t₇
    have e7 : Eff (fun b => ownOf adr S b ∧ b ≠ adr .cls) s ⟨h₇, s.gens, s.drawn, t₇, s.os⟩ := sb_eff (tk := t₇) sb₇ (ownS hal)
    have F₇ := Fr_eff' (P := fun b => ownOf adr S b ∧ b ≠ adr .cls) F e7 (fun z => hLD (R.dom z.1)) (fun b z => R.dom z.1) hB
    have hca7 : h₇.IsList ca vs.toArray := hca.at fun o q => e7.keep ca o (fun z => hco z.1) q
    obtain ⟨od', d1', d2'⟩ := R₇.o_sdct (by show 1 ≤ S.ph; omega)
    obtain ⟨os', c1', c2'⟩ := R₇.o_sent (by show 1 ≤ S.ph; omega) (l := z) hzl
    obtain ⟨vq, tz, hvz, _⟩ := ints_split (hqz ▸ hvs)
    refine wpAny_execs_cons (wpAny_Expr ?_)
    refine MethodCall_ ?_
    refine Subscript_ ?_
    refine attr_name (s := ⟨h₇, s.gens, s.drawn, t₇, s.os⟩) G F₇ kf.S hm (R₇.h_sdct (by show 1 ≤ S.ph; omega)) (by decide) rfl ?_
    refine Subscript_ (ld F₇ hmc (UnaryOp_ (wpAny_Constant_int (P.neg_int ?_))))
    refine itemLast (by rw [← hvz]; exact hca7) ?_
    refine itemMap d1' d2' (mem_litsOf.mpr hzl) fun v hv => ?_
    subst hv
    refine getMethod_add c1' c2' (callWith_method1 (args_cons (ld F₇ hmi (args_nil ?_))))
    refine call_add c1' c2' (by
      show (updI S.sent a (addI (S.sent a) i) z).length + 1 < 4096
      have h1 := szs hal; have h2 := szs hzl
      unfold updI addI
      split
      · split
        · omega
        · rw [List.length_append]; show _ + 1 + 1 < _; omega
      · omega) fun h₈ o₈ sb₈ ho₈ x₈ => ?_
    have R₈ := R₇.u_sent (by show 1 ≤ S.ph; omega) hzl sb₈ ho₈ x₈
    have hst : stepI S i cl = { S with sent := updI (updI S.sent a (addI (S.sent a) i)) z (addI (updI S.sent a (addI (S.sent a) i) z) i) } := by unfold stepI; rw [if_neg h1, hhd, hzd]
    have R₈' : Rep prog w B D adr (stepI S i cl) h₈ := by rw [hst]; exact R₈
    generalize t₇ + 1 + 1 + 1 + 1 + 1 = t₈
    have e8 : Eff (fun b => ownOf adr S b ∧ b ≠ adr .cls) s ⟨h₈, s.gens, s.drawn, t₈, s.os⟩ := e7.same (sb_eff (s := ⟨h₇, s.gens, s.drawn, t₇, s.os⟩) (tk := t₈) sb₈ (ownS hzl))
    have F₈ := Fr_eff' (P := fun b => ownOf adr S b ∧ b ≠ adr .cls) F e8 (fun z => hLD (R.dom z.1)) (fun b z => R.dom z.1) hB
    have hca8 : h₈.IsList ca vs.toArray := hca.at fun o q => e8.keep ca o (fun z => hco z.1) q
    have hsn : (stepI S i cl).n = S.n := stepI_same.1
    have hsp : (stepI S i cl).ph = S.ph := stepI_same.2.1
    refine wpAny_execs_cons (wpAny_For (ld (s := ⟨h₈, s.gens, s.drawn, t₈, s.os⟩) F₈ hmc ?_))
    refine iter_list (s := ⟨h₈, s.gens, s.drawn, t₈, s.os⟩) hca8 (ints_f2 hvs) fun s₉ it T e₉ hit IT hT => ?_
    have e9 : Eff (fun b => ownOf adr S b ∧ b ≠ adr .cls) s s₉ := e8.same e₉.no
    have R₉ := R₈'.keep fun b o q => e₉.all q
    have hitD : ¬ D it := R₈.new hit
    have hits : s.heap.get? it = none := Eff_fresh e8 hit fun z => hitD (R.dom z.1)
    have hitL : it ≠ L := fun z => by subst z; obtain ⟨o, q⟩ := Fr_live F₈; rw [q] at hit; cases hit
    have hod : S.live .odct := by show 2 ≤ S.ph; omega
    have ownO : (fun b => ownOf adr S b ∧ b ≠ adr .cls) (adr .odct) := ⟨⟨_, hod, rfl⟩, fun z => by have := R.inj _ .cls hod (by show 4 ≤ S.ph; omega) z; cases this⟩
    refine loop_iter (prog := prog) (w := w) (B := B) rm.hh IT (by simpa using Ne.symm hitL) (by simpa using Ne.symm hcL) (fun b hb => by rw [List.mem_singleton] at hb; subst hb; exact (frOn F).none hits)
      (fun rem m' s' => m' "self" = some (.ref (adr .slf)) ∧ (∀ x ∈ rem, IsLit S.n x) ∧ Rep prog w B D adr (stepI S i cl) s'.heap ∧ Eff (fun b => ownOf adr S b ∧ b ≠ adr .cls ∨ b = L) s s') ⟨hm, hlit, R₉, e9.sub fun b z => .inl z⟩ (Fr_no F₈ e₉) hT ?_ ?_
    · rintro y rem m₄ s₁₀ s₁₁ v ⟨hm4, hrem, R₁₀, e10⟩ ⟨tk', rfl⟩ F₁₁ e₁₁ _
      have e11 : Eff (fun b => ownOf adr S b ∧ b ≠ adr .cls ∨ b = L) s s₁₁ := e10.trans e₁₁ fun b hb => by rcases hb with rfl | rfl; exact .inr hits; exact .inl (.inr rfl)
      have R₁₁ := R₁₀.eff e₁₁ fun b hb => by rcases hb with rfl | rfl; exact hitD; exact hLD
      have hm5 : (fun z => if z = Str.ofString "lit" then some (Value.int y tk') else m₄ z) "self" = some (.ref (adr .slf)) := by rw [← hm4]; exact if_neg (by decide)
      obtain ⟨od, h1, h2⟩ := R₁₁.o_odct (by rw [hsp]; omega)
      rw [hsn] at h2
      refine wpAny_execs_cons (bump G F₁₁ kf.S hm5 (R₁₁.h_odct (by rw [hsp]; omega)) (by decide) rfl h1 h2 (mem_litsOf.mpr (hrem y (by simp))) (by rw [litsOf_length]; omega) fun s₁₂ o₁₂ g₁₂ x₁₂ sb₁₂ e₁₂ => ?_)
      have R₁₂ := R₁₁.u_odct (by rw [hsp]; omega) sb₁₂ g₁₂ (by rw [hsn]; exact x₁₂)
      have F₁₂ := Fr_eff' F₁₁ e₁₂ (fun z => hLD (R.dom (z ▸ ownO.1))) (fun b z => R.dom (z ▸ ownO.1)) hB
      refine wpAny_execs_nil ⟨_, _, F₁₂, ⟨hm5, fun x hx => hrem x (by simp [hx]), R₁₂, e11.same (e₁₂.sub fun b z => .inl (z ▸ ownO))⟩, e₁₂, ?_⟩
      rintro c (hc | hc) zz
      · rw [List.mem_singleton] at hc; exact hitD (hc ▸ zz ▸ R.dom ownO.1)
      · rw [List.mem_singleton] at hc; exact hco (hc ▸ zz ▸ ownO.1)
    · rintro m₄ s₁₀ s₁₁ ⟨hm4, -, R₁₀, e10⟩ F₁₁ e₁₁
      exact wpAny_execs_nil (hq s₁₁ m₄ F₁₁ hm4 (R₁₀.eff e₁₁ fun b hb => hb ▸ hitD) (e10.trans e₁₁ fun b hb => .inr (hb ▸ hits)) _ (.inl rfl))
end
end Dp
end
section
open PySem PySem.W PySem.Calls PyProof.Rows
namespace Dp
theorem foldI_snoc : ∀ (xs : List (List Int)) (k : Nat) (c : List Int) (S : SV), foldI k (xs ++ [c]) S = stepI (foldI k xs S) (k + xs.length) c
  | [], k, c, S => rfl
  | x :: r, k, c, S => by
    show foldI (k + 1) (r ++ [c]) (stepI S k x) = _
    rw [foldI_snoc r (k + 1) c]
    show stepI (foldI (k + 1) r (stepI S k x)) (k + 1 + r.length) c = stepI (foldI (k + 1) r (stepI S k x)) (k + (r.length + 1)) c
    rw [show k + 1 + r.length = k + (r.length + 1) by omega]
theorem foldI_same : ∀ (xs : List (List Int)) (k : Nat) (S : SV), (foldI k xs S).n = S.n ∧ (foldI k xs S).ph = S.ph ∧ (foldI k xs S).cls = S.cls
  | [], k, S => ⟨rfl, rfl, rfl⟩
  | x :: r, k, S => by
    obtain ⟨a, b, c⟩ := foldI_same r (k + 1) (stepI S k x)
    exact ⟨a.trans stepI_same.1, b.trans stepI_same.2.1, c.trans stepI_same.2.2.1⟩
theorem f2_mem {α β : Type} {R : α → β → Prop} {l : List α} {m : List β} (x : F2 R l m) {b : β} (h : b ∈ m) : ∃ a ∈ l, R a b := by
  induction x with
  | nil => cases h
  | cons r _ ih =>
    rcases List.mem_cons.mp h with rfl | h
    · exact ⟨_, .head _, r⟩
    · obtain ⟨a, h1, h2⟩ := ih h; exact ⟨a, .tail _ h1, h2⟩
section
variable {prog : Program} {w : World} {K : Frag} {B : Heap} {A : Around} {E : Value → Shared → Prop} {s s' s₁ s₂ : Shared} {L a l x C : Addr} {m m' : Str → Option Value} {adr adr' : Role → Addr} {D D' : Addr → Prop} {S S' : SV} {h h' : Heap} {env : Env}
set_option maxHeartbeats 1000000 in
theorem call_init_clauses {cl0 : Addr} {k0 : Nat} {xs : List (Addr × List Int)} {Rr : Result → Shared → Prop} (G : Bas w K B) (kf : KF K) (o : On B s.heap) (R : Rep prog w B D adr S s.heap) (rm : Rm A 3) (hph : S.ph = 3) (hn : S.n ≤ 20)
    (hl : s.heap.get? cl0 = some (listO (xs.map fun p => Value.ref p.1).toArray k0)) (hsets : ∀ p ∈ xs, (∃ o, s.heap.get? p.1 = some o ∧ IntSet w o p.2) ∧ p.2.length < 1000 ∧ p.2 ≠ [] ∧ ∀ x ∈ p.2, IsLit S.n x) (hz : xs.length ≤ 100) (hsent : ∀ l, S.sent l = []) (hque : S.que = [])
    (hq : ∀ s' D' adr' CL, F2 (fun (p : Addr × List Int) c => c.Perm p.2) xs CL → Rep prog w B D' adr' (foldI 0 CL { S with cls := CL, ph := 4 }) s'.heap → Gr D D' s s' → adr' .slf = adr .slf → Rr (.ok (.ret .none)) s') :
    codeAny (model prog w) A (.call (.ref 88) ⟨[.ref (adr .slf), .ref cl0], []⟩) Rr s := by
  obtain ⟨pm, ho⟩ := kf.fIC.fn.at_
  refine call_fn (binds := [("self", .ref (adr .slf)), ("clauses", .ref cl0)]) G o ho kf.fIC.fn.code rm.room (BindsTo.of_eq rfl) (locs rfl) (fun h₁ L F hL hk => ?_)
  have R₁ := R.keep hk
  have hLD : ¬ D L := R.new hL
  have hB := R.off
  refine wpAny_execs_cons (plainObj_wpAny_Assign_Attribute (eval_clauses (xs := xs) G kf F rfl (hk _ _ hl) (fun p hp => let ⟨⟨o, a, b⟩, c, _⟩ := hsets p hp; ⟨o, hk _ _ a, b, c⟩) (by omega) rm.deeper.hh fun s₂ b k outs e₂ hb hb' hf2 houts => ?_))
  have F₂ := Fr_no F e₂
  have R₂ := R₁.keep fun b o q => e₂.all q
  have e2s : Eff No s s₂ := ⟨fun b o n q => e₂.keep b o n (hk b o q), e₂.gens, e₂.os⟩
  have old : ∀ {c}, h₁.get? c = none → s.heap.get? c = none := fun {c} q => by
    cases q' : s.heap.get? c with
    | none => rfl
    | some ob => rw [hk c ob q'] at q; cases q
  have hbs := old hb
  have hbD : ¬ D b := R.new hbs
  have hbL : b ≠ L := fun z => by obtain ⟨ob, q⟩ := Fr_live F; rw [z] at hb; rw [show h₁.get? L = none from hb] at q; cases q
  have hoL : ∀ q ∈ outs, q.1 ≠ L := fun q hq' z => by have := (houts q hq').1; obtain ⟨ob, y⟩ := Fr_live F; rw [z] at this; rw [show h₁.get? L = none from this] at y; cases y
  refine ld F₂ rfl ?_
  refine set_one (S' := { S with cls := outs.map (·.2), ph := 4 }) (q := .cls) (b := b) (X := fun x => ∃ q ∈ outs, q.1 = x) G kf (frOn F₂) R₂ (by decide) (by omega) (by show 4 = S.ph + 1; omega) (fun r => by cases r <;> simp [SV.live, hph]) (by simp [SV.live, hph]) hbD (o.none hbs) hb' ?_ rfl (fun f a => ?_) (fun h' sb => ?_) (fun D own ad h' r o hr hd x => by cases r <;> first | exact x | exact absurd rfl hd | (exfalso; simp [SV.live, hph] at hr)) fun s₃ R₃ e₃ => ?_
  · rintro x ⟨q, hq', rfl⟩
    obtain ⟨x1, x2, oc, x3, x4⟩ := houts q hq'
    exact ⟨R.new (old x1), ⟨oc, x3⟩, Ne.symm x2, o.none (old x1)⟩
  · have ne : ∀ x : Str, x ≠ "clauses" → updS f "clauses" (.ref b) x = f x := fun x hx => if_neg hx
    have no : ∀ {k : Nat}, 5 ≤ k → ¬ k ≤ 4 := fun h => by omega
    have h3 : ∀ {j : Nat}, j ≤ 3 → j ≤ S.ph := fun h => by omega
    exact ⟨(ne _ (by decide)).trans a.vset, (ne _ (by decide)).trans a.unsat, (ne _ (by decide)).trans a.que, (ne _ (by decide)).trans a.syms, fun _ => (ne _ (by decide)).trans (a.sdct (h3 (by omega))), fun _ => (ne _ (by decide)).trans (a.odct (h3 (by omega))), fun _ => (ne _ (by decide)).trans (a.vars (h3 (by omega))), fun _ => updS_self, fun h => absurd h (no (by omega)), fun h => absurd h (no (by omega)), fun h => absurd h (no (by omega)), fun h => absurd h (no (by omega)), fun h => absurd h (no (by omega)), fun h => absurd h (no (by omega)), fun x hx => (ne x fun z => hx (by rw [z]; decide)).trans (a.rest x hx)⟩
  · refine ⟨outs.map (·.1), k, by rw [List.map_map]; rfl, ?_⟩
    have gen : ∀ os : List (Addr × List Int), (∀ q ∈ os, q ∈ outs) → F2 (fun a c => ∃ oc, Fz (fun x => D x ∨ (∃ r, r = Role.cls ∧ b = x) ∨ ∃ q ∈ outs, q.1 = x) (ownOf (upR adr .cls b) { S with cls := outs.map (·.2), ph := 4 }) h' a oc ∧ IntList oc c) (os.map (·.1)) (os.map (·.2)) := by
      intro os
      induction os with
      | nil => intro _; exact .nil
      | cons q r ih =>
        intro hs
        obtain ⟨x1, x2, oc, x3, x4⟩ := houts q (hs q (by simp))
        refine .cons ⟨oc, ⟨.inr (.inr ⟨q, hs q (by simp), rfl⟩), ?_, (sb.2 _ fun z => R.new (old x1) (by have z' : q.1 = adr .dct := z; rw [z']; exact R.sub .dct trivial)).trans x3⟩, x4⟩ (ih fun q hq' => hs q (by simp [hq']))
        rintro ⟨r, hr, hrq⟩
        by_cases hrc : r = .cls
        · subst hrc; rw [upR_self] at hrq; exact x2 hrq.symm
        · rw [upR_ne hrc] at hrq
          have hlr : S.live r := by cases r <;> first | exact absurd rfl hrc | simpa [SV.live, hph] using hr
          exact R.new (old x1) (by have z' : adr r = q.1 := hrq; rw [← z']; exact R.sub _ hlr)
    exact gen outs fun q hq' => hq'
  have g₃ := (Gr.no (D := D) e2s).roles (N := fun r => r = .cls) (b := fun _ => b) (X := fun x => ∃ q ∈ outs, q.1 = x) (e₃.sub fun x z => z ▸ R.sub .dct trivial) (fun _ _ => hbs) fun x ⟨q, hq', z⟩ => z ▸ old (houts q hq').1
  have F₃ := Fr_eff' F₂ e₃ (fun z => hLD (z ▸ R.sub .dct trivial)) (fun x z => z ▸ R.sub .dct trivial) hB
  have hLD3 : ¬ (fun x => D x ∨ (∃ r, r = Role.cls ∧ b = x) ∨ ∃ q ∈ outs, q.1 = x) L := by
    rintro (z | ⟨r, rfl, z⟩ | ⟨q, hq', z⟩)
    · exact hLD z
    · exact hbL z
    · exact hoL q hq' z
  have hb3 : s₃.heap.get? b = some (listO (outs.map fun p => Value.ref p.1).toArray k) := e₃.keep _ _ (fun z => hbD (z ▸ R.sub .dct trivial)) hb'
  have hcls : upR adr .cls b .cls = b := upR_self
  have hslf : upR adr .cls b .slf = adr .slf := upR_ne (by nofun)
  generalize hD3 : (fun x => D x ∨ (∃ r, r = Role.cls ∧ b = x) ∨ ∃ q ∈ outs, q.1 = x) = D₃ at R₃ g₃ hLD3
  generalize upR adr .cls b = adr₃ at R₃ hcls hslf
  generalize hS0 : ({ S with cls := outs.map (·.2), ph := 4 } : SV) = S₀ at R₃
  have hcl0 : S₀.cls = outs.map (·.2) := by subst hS0; rfl
  have hp0 : S₀.ph = 4 := by subst hS0; rfl
  have hn0 : S₀.n = S.n := by subst hS0; rfl
  have hs0 : ∀ l, S₀.sent l = [] := by subst hS0; exact hsent
  have hq0 : S₀.que = [] := by subst hS0; exact hque
  have hB3 := R₃.off
  have hlen : outs.length = xs.length := hf2.length.symm
  have hb3' : s₃.heap.get? (adr₃ .cls) = some (listO (outs.map fun p => Value.ref p.1).toArray k) := by rw [hcls]; exact hb3
  refine wpAny_execs_cons (wpAny_For (Call_ (nmB G kf F₃ ?_)))
  refine PyProof.Rows.callWith_type1 ?_
  refine args_cons ?_
  refine attr_name G F₃ kf.S (m := fun z => (([("self", .ref (adr .slf)), ("clauses", .ref cl0)] : List (Str × Value))).reverse.lookup z) (show _ = some (Value.ref (adr₃ .slf)) from hslf ▸ rfl) (R₃.h_cls (by omega)) (by decide) rfl (args_nil ?_)
  refine call_enumerate_list (listO_is hb3') fun h₄ he hit hsz hk4 => ?_
  refine wpAny_pyIter_enum he ?_
  have hen : s₃.heap.get? (s₃.heap.objs.size + 1) = none := by
    cases q : s₃.heap.get? (s₃.heap.objs.size + 1) with
    | none => rfl
    | some ob => exact absurd (Heap.lt_size q) (Nat.not_lt.mpr (Nat.le_succ _))
  have hin : s₃.heap.get? s₃.heap.objs.size = none := new_none
  have hne : s₃.heap.objs.size + 1 ≠ s₃.heap.objs.size := Nat.succ_ne_self _
  generalize s₃.heap.objs.size + 1 = e at he hen hne ⊢
  generalize s₃.heap.objs.size = it at he hit hin hne ⊢
  have e34 : Eff No s₃ ⟨h₄, s₃.gens, s₃.drawn, s₃.toks + 1, s₃.os⟩ := ⟨fun b o _ q => hk4 b o q, rfl, rfl⟩
  have F₄ := Fr_no F₃ e34
  have R₄ := R₃.keep fun b o q => e34.all q
  have hbl : ∀ {c}, s₃.heap.get? c = none → c ≠ adr₃ .cls := fun {c} q z => by rw [z, hb3'] at q; cases q
  have hLl : ∀ {c}, s₃.heap.get? c = none → c ≠ L := fun {c} q z => by obtain ⟨ob, y⟩ := Fr_live F₃; rw [z] at q; rw [q] at y; cases y
  have hcL : adr₃ .cls ≠ L := by rw [hcls]; exact hbL
  have heD : ¬ D₃ e := R₃.new hen
  have hiD : ¬ D₃ it := R₃.new hin
  have fresh0 : ∀ {c}, s₃.heap.get? c = none → ¬ D₃ c → s.heap.get? c = none := fun q n => Eff_fresh g₃.eff q fun z => n (g₃.up _ z)
  have hCL : ∀ c ∈ S₀.cls, c ≠ [] ∧ (∀ x ∈ c, IsLit S.n x) ∧ c.length ≤ 1000 := fun c hc => by
    rw [hcl0] at hc
    obtain ⟨q, hq1, rfl⟩ := List.mem_map.mp hc
    obtain ⟨p, hp, hpm⟩ := f2_mem hf2 hq1
    obtain ⟨_, a2, a3, a4⟩ := hsets p hp
    exact ⟨fun z => a3 (by have := hpm.length_eq; rw [z] at this; exact List.length_eq_zero_iff.mp this.symm), fun x hx => a4 x (hpm.mem_iff.mp hx), by rw [hpm.length_eq]; omega⟩
  refine loop_enum (prog := prog) (w := w) (B := B) (items := outs.map fun p => Value.ref p.1) (env := icEnv L) rm.deeper.hh (by rfl) (by rfl) (by rfl) hne (hLl hen) (hLl hin) hcL (Ne.symm (hbl hen)) (Ne.symm (hbl hin)) ((frOn F₃).none hen) ((frOn F₃).none hin) he hit (hk4 _ _ hb3') F₄
    (fun i m' s' => m' "self" = some (.ref (adr₃ .slf)) ∧ Rep prog w B D₃ adr₃ (foldI 0 (S₀.cls.take i) S₀) s'.heap ∧ IcInv (foldI 0 (S₀.cls.take i) S₀) i ∧ s'.heap.get? (adr₃ .cls) = some (listO (outs.map fun p => Value.ref p.1).toArray k) ∧ Gr D D₃ s s')
    ⟨show _ = some (Value.ref (adr₃ .slf)) from hslf ▸ rfl, R₄, ⟨fun l _ => ⟨by rw [show foldI 0 (S₀.cls.take 0) S₀ = S₀ from rfl, hs0]; exact List.nodup_nil, fun c hc => by rw [show foldI 0 (S₀.cls.take 0) S₀ = S₀ from rfl, hs0] at hc; cases hc⟩, by show S₀.que.length ≤ 0; rw [hq0]; exact Nat.le_refl 0⟩, hk4 _ _ hb3', g₃.trans (.no e34)⟩ ?_ ?_
  · rintro i v tk m₁ s₅ s₆ hv ⟨hm1, R₅, I₅, hc5, g₅⟩ F₆ e₆ ⟨oe, hoe⟩ ⟨oi, hoi⟩
    obtain ⟨q, hq1, rfl⟩ : ∃ q, outs[i]? = some q ∧ v = .ref q.1 := by
      rw [List.getElem?_map] at hv
      cases hh : outs[i]? with
      | none => rw [hh] at hv; cases hv
      | some q => rw [hh] at hv; exact ⟨q, rfl, (Option.some.inj hv).symm⟩
    have hi : i < outs.length := by rcases Nat.lt_or_ge i outs.length with z | z; exact z; rw [List.getElem?_eq_none z] at hq1; cases hq1
    have hci : S₀.cls[i]? = some q.2 := by rw [hcl0, List.getElem?_map, hq1]; rfl
    have nD : ∀ {b}, b = e ∨ b = it ∨ b = L → ¬ D₃ b := by
      rintro b (rfl | rfl | rfl)
      · exact heD
      · exact hiD
      · exact hLD3
    have R₆ := R₅.eff e₆ fun b hb => nD hb
    have hS := foldI_same (S₀.cls.take i) 0 S₀
    have hc6 := e₆.keep _ _ (fun z => nD z (by have := R₃.sub .cls (by show 4 ≤ S₀.ph; omega); exact this)) hc5
    obtain ⟨as, k', ca, vs, x1, x2, x3, x4, x5, x6, x7⟩ := R₆.clause (i := i) (c := q.2) (by rw [hS.2.1]; omega) (by rw [hS.2.2]; exact hci)
    have hca : ca = q.1 := by
      rw [x1] at hc6
      have h1 : (as.map Value.ref) = outs.map fun p => Value.ref p.1 := by
        have := Option.some.inj hc6
        injection this with _ _ h3
        injection h3 with h4
        exact congrArg Array.toList h4
      have h2 : (as.map Value.ref)[i]? = some (.ref ca) := by rw [List.getElem?_map, x2]; rfl
      rw [h1, List.getElem?_map, hq1] at h2
      exact (Value.ref.inj (Option.some.inj h2)).symm
    have hqc := hCL q.2 (List.mem_of_getElem? hci)
    have hmS : ∀ {z : Str} {u}, m₁ z = u → z ≠ "clause" → z ≠ "i" → (fun y => if y = Str.ofString "clause" then some (Value.ref q.1) else if y = Str.ofString "i" then some (Value.int i tk) else m₁ y) z = u := fun h n1 n2 => by simp only [if_neg n1, if_neg n2]; exact h
    have hsn : (foldI 0 (S₀.cls.take i) S₀).n = S.n := hS.1.trans hn0
    have hstep : stepI (foldI 0 (S₀.cls.take i) S₀) i q.2 = foldI 0 (S₀.cls.take (i + 1)) S₀ := by
      have h1 : S₀.cls.take (i + 1) = S₀.cls.take i ++ [q.2] := by rw [List.take_add_one, hci]; rfl
      rw [h1, foldI_snoc, Nat.zero_add, List.length_take, Nat.min_eq_left]
      rw [hcl0, List.length_map]; omega
    refine ic_turn (cl := q.2) (vs := vs) (ca := q.1) (tk := tk) G kf F₆ R₆ (rm.deeper.less (by omega)) (by rw [hS.2.1]; exact hp0) (by rw [hsn]; exact hn) hLD3 (by omega) I₅ (hmS hm1 (by decide) (by decide)) (by simp only [if_neg (by decide : ¬ Str.ofString "i" = Str.ofString "clause"), if_pos]) (if_pos rfl) (hca ▸ x6) (hca ▸ x4) (hca ▸ x5) x7 hqc.1 (by rw [hsn]; exact hqc.2.1) hqc.2.2 fun s' m' F' hm' R' e' f hf => ?_
    have hown : ∀ b, (ownOf adr₃ (foldI 0 (S₀.cls.take i) S₀) b ∧ b ≠ adr₃ .cls ∨ b = L) → D₃ b ∨ b = L := fun b z => z.imp (fun y => R₆.dom y.1) id
    have fin : ∃ m' P, Fr B L s'.heap m' ∧ (m' "self" = some (.ref (adr₃ .slf)) ∧ Rep prog w B D₃ adr₃ (foldI 0 (S₀.cls.take (i + 1)) S₀) s'.heap ∧ IcInv (foldI 0 (S₀.cls.take (i + 1)) S₀) (i + 1) ∧ s'.heap.get? (adr₃ .cls) = some (listO (outs.map fun p => Value.ref p.1).toArray k) ∧ Gr D D₃ s s') ∧ Eff P s₆ s' ∧ ¬ P e ∧ ¬ P it ∧ ¬ P (adr₃ .cls) := by
      refine ⟨m', _, F', ⟨hm', hstep ▸ R', hstep ▸ I₅.step (by rw [hsn]; exact hqc.2.1) hqc.1, e'.keep _ _ (fun z => z.elim (fun y => y.2 rfl) hcL) hc6, ?_⟩, e', fun z => (hown _ z).elim heD (hLl hen), fun z => (hown _ z).elim hiD (hLl hin), fun z => z.elim (fun y => y.2 rfl) hcL⟩
      have gL : ∀ b, b = e ∨ b = it ∨ b = L → s.heap.get? b = none := by
        rintro b (rfl | rfl | rfl)
        · exact fresh0 hen heD
        · exact fresh0 hin hiD
        · exact hL
      have g6 := g₅.loc e₆ gL
      exact ⟨g6.up, g6.back, g6.eff.trans e' fun b hb => (hown b hb).elim (fun z => g6.back b z) fun z => .inr (gL b (.inr (.inr z)))⟩
    rcases hf with rfl | rfl
    · exact fin
    · exact fin
  · rintro m₁ s₅ s₆ ⟨hm1, R₅, I₅, hc5, g₅⟩ F₆ e₆
    refine wpAny_execs_nil (hq s₆ D₃ adr₃ S₀.cls ?_ ?_ (g₅.loc e₆ fun b z => z ▸ fresh0 hin hiD) hslf)
    · rw [hcl0]
      have gen : ∀ (a : List (Addr × List Int)) (b : List (Addr × List Int)), F2 (fun p q => q.2.Perm p.2) a b → F2 (fun (p : Addr × List Int) c => c.Perm p.2) a (b.map (·.2)) := by
        intro a b h
        induction h with
        | nil => exact .nil
        | cons r _ ih => exact .cons r ih
      exact gen _ _ hf2
    · have h1 : S₀.cls.take (outs.map fun p => Value.ref p.1).length = S₀.cls := by rw [List.take_of_length_le]; rw [hcl0]; simp
      rw [h1] at R₅
      have h2 : ({ S with cls := S₀.cls, ph := 4 } : SV) = S₀ := by rw [← hS0]
      rw [h2]
      exact R₅.eff e₆ fun b z => z ▸ hiD
end
end Dp
end
section
open PySem PySem.W PySem.Calls PyProof.Rows
namespace Dp
section
variable {prog : Program} {w : World} {K : Frag} {B : Heap} {A : Around} {E : Value → Shared → Prop} {s s' s₁ s₂ : Shared} {L a l x C : Addr} {m m' : Str → Option Value} {adr adr' : Role → Addr} {D D' : Addr → Prop} {S S' : SV} {h h' : Heap} {env : Env}
theorem new_dict {pos : Pos} {env : Env} {Q : Value → Shared → Prop} (hq : ∀ s' b, s.heap.get? b = none → s'.heap.get? b = some { cls := .type "dict", data := .dict #[] } → Eff No s s' → Q (.ref b) s') : wpAny (model prog w) A (eval (.Dict [] [] pos) env) Q E s :=
  wpAny_Dict_empty (hq _ s.heap.objs.size new_none (Heap.get?_push_size _ rfl) ⟨fun b o _ e => Heap.get?_push_of_some _ e, rfl, rfl⟩)
theorem dict_new {V : Int → Value → Prop} : KMap prog w { cls := .type "dict", data := .dict #[] } [] V := by
  refine ⟨[], fun h a ha => ?_, rfl, fun kv h => nomatch h⟩
  obtain ⟨o, ho, hd⟩ := Heap.dictOf_iff.mp (Heap.DictOf.new (knd := intKind prog w) h)
  rw [Heap.get?_push_size _ rfl] at ho
  exact Heap.dictOf_iff.mpr ⟨_, ha, (Option.some.inj ho) ▸ hd⟩
set_option maxHeartbeats 1000000 in
theorem call_vsids_init {Rr : Result → Shared → Prop} (G : Bas w K B) (kf : KF K) (o : On B s.heap) (R : Rep prog w B D adr S s.heap) (rm : Rm A 2) (hph : S.ph = 4) (hn : S.n ≤ 20) (hvs : S.vars.length = S.n + 1)
    (hq : ∀ s' D' adr' hp, hp.Perm (litsOf S.n) → Rep prog w B D' adr' { S with hp := hp, sk := litsOf S.n, ph := 6 } s'.heap → Gr D D' s s' → adr' .slf = adr .slf → Rr (.ok (.ret .none)) s') :
    codeAny (model prog w) A (.call (.ref 157) ⟨[.ref (adr .slf)], []⟩) Rr s := by
  obtain ⟨pm, ho⟩ := kf.fVI.fn.at_
  refine call_fn (binds := [("self", .ref (adr .slf))]) G o ho kf.fVI.fn.code rm.room (BindsTo.of_eq rfl) (locs rfl) (fun h₁ L F hL hk => ?_)
  have R₁ := R.keep hk
  have hLD : ¬ D L := R.new hL
  have hB := R.off
  refine wpAny_execs_cons (plainObj_wpAny_Assign_Attribute (List_ (args_nil (new_list (by rw [sizeLine_eq]; simp) fun s₂ b hb hb' e₂ => ?_))))
  have F₂ := Fr_no F e₂
  have R₂ := R₁.keep fun b o q => e₂.all q
  have e2s : Eff No s s₂ := ⟨fun b o n q => e₂.keep b o n (hk b o q), e₂.gens, e₂.os⟩
  have old : ∀ {c}, h₁.get? c = none → s.heap.get? c = none := fun {c} q => by
    cases q' : s.heap.get? c with
    | none => rfl
    | some ob => rw [hk c ob q'] at q; cases q
  have hbs : s.heap.get? b = none := old hb
  have hbD : ¬ D b := R.new hbs
  have hdD : ∀ x, x = adr .dct → D x := fun x z => z ▸ R.sub .dct trivial
  have nL1 : ∀ {c}, h₁.get? c = none → c ≠ L := fun {c} q z => by obtain ⟨ob, y⟩ := Fr_live F; rw [z] at q; rw [show h₁.get? L = none from q] at y; cases y
  refine ld F₂ rfl ?_
  refine set_one (S' := { S with hp := [], ph := 5 }) (q := .hp) (b := b) (X := fun _ => False) G kf (frOn F₂) R₂ (by decide) (by omega) (by show 5 = S.ph + 1; omega) (fun r => by cases r <;> simp [SV.live, hph]) (by simp [SV.live, hph]) hbD (o.none hbs) hb' (fun _ h => h.elim) rfl (fun f a => ?_) (fun h' sb => ⟨[], 0, rfl, .nil⟩) (fun D own ad h' r o hr hd x => by cases r <;> first | exact x | exact absurd rfl hd | (exfalso; simp [SV.live, hph] at hr)) fun s₃ R₃ e₃ => ?_
  · have ne : ∀ x : Str, x ≠ "lit_heap" → updS f "lit_heap" (.ref b) x = f x := fun x hx => if_neg hx
    have no : ∀ {k : Nat}, 6 ≤ k → ¬ k ≤ 5 := fun h => by omega
    have h3 : ∀ {j : Nat}, j ≤ 4 → j ≤ S.ph := fun h => by omega
    exact ⟨(ne _ (by decide)).trans a.vset, (ne _ (by decide)).trans a.unsat, (ne _ (by decide)).trans a.que, (ne _ (by decide)).trans a.syms, fun _ => (ne _ (by decide)).trans (a.sdct (h3 (by omega))), fun _ => (ne _ (by decide)).trans (a.odct (h3 (by omega))), fun _ => (ne _ (by decide)).trans (a.vars (h3 (by omega))), fun _ => (ne _ (by decide)).trans (a.cls (h3 (by omega))), fun _ => updS_self, fun h => absurd h (no (by omega)), fun h => absurd h (no (by omega)), fun h => absurd h (no (by omega)), fun h => absurd h (no (by omega)), fun h => absurd h (no (by omega)), fun x hx => (ne x fun z => hx (by rw [z]; decide)).trans (a.rest x hx)⟩
  have g₃ := (Gr.no (D := D) e2s).roles (N := fun r => r = .hp) (b := fun _ => b) (X := fun _ => False) (e₃.sub hdD) (fun _ _ => hbs) fun _ h => h.elim
  have F₃ := Fr_eff' F₂ e₃ (fun z => hLD (hdD _ z)) hdD hB
  have hLD3 : ¬ (fun x => D x ∨ (∃ r, r = Role.hp ∧ b = x) ∨ False) L := by
    rintro (z | ⟨r, rfl, z⟩ | z)
    · exact hLD z
    · exact nL1 hb z
    · exact z
  have hslf : upR adr .hp b .slf = adr .slf := upR_ne (by nofun)
  generalize hD3 : (fun x => D x ∨ (∃ r, r = Role.hp ∧ b = x) ∨ False) = D₃ at R₃ g₃ hLD3
  generalize upR adr .hp b = adr₃ at R₃ hslf
  have hB3 := R₃.off
  refine wpAny_execs_cons (plainObj_wpAny_Assign_Attribute (new_dict fun s₄ c hc hc' e₄ => ?_))
  have F₄ := Fr_no F₃ e₄
  have R₄ := R₃.keep fun b o q => e₄.all q
  have hcD : ¬ D₃ c := R₃.new hc
  have hcs : s.heap.get? c = none := Eff_fresh g₃.eff hc fun z => hcD (g₃.up _ z)
  have hcL : c ≠ L := fun z => by obtain ⟨ob, y⟩ := Fr_live F₃; rw [← z, hc] at y; cases y
  have hdD3 : ∀ x, x = adr₃ .dct → D₃ x := fun x z => z ▸ R₃.sub .dct trivial
  refine ld F₄ (show _ = some (Value.ref (adr₃ .slf)) from hslf ▸ rfl) ?_
  refine set_one (S' := { S with hp := [], sk := [], ph := 6 }) (q := .sdic) (b := c) (X := fun _ => False) G kf (frOn F₄) R₄ (by decide) (by show (5 : Nat) ≤ 12; omega) rfl (fun r => by cases r <;> simp [SV.live]) (by simp [SV.live]) hcD (o.none hcs) hc' (fun _ h => h.elim) rfl (fun f a => ?_) (fun h' sb => (dict_new : KMap prog w _ [] fun _ => IsIntV)) (fun D own ad h' r o hr hd x => by cases r <;> first | exact x | exact absurd rfl hd | (exfalso; simp [SV.live] at hr)) fun s₅ R₅ e₅ => ?_
  · have ne : ∀ x : Str, x ≠ "lit_scores" → updS f "lit_scores" (.ref c) x = f x := fun x hx => if_neg hx
    have no : ∀ {k : Nat}, 7 ≤ k → ¬ k ≤ 6 := fun h => by omega
    have h3 : ∀ {j : Nat}, j ≤ 5 → j ≤ 5 := fun h => h
    exact ⟨(ne _ (by decide)).trans a.vset, (ne _ (by decide)).trans a.unsat, (ne _ (by decide)).trans a.que, (ne _ (by decide)).trans a.syms, fun _ => (ne _ (by decide)).trans (a.sdct (by show (1 : Nat) ≤ 5; omega)), fun _ => (ne _ (by decide)).trans (a.odct (by show (2 : Nat) ≤ 5; omega)), fun _ => (ne _ (by decide)).trans (a.vars (by show (3 : Nat) ≤ 5; omega)), fun _ => (ne _ (by decide)).trans (a.cls (by show (4 : Nat) ≤ 5; omega)), fun _ => (ne _ (by decide)).trans (a.hp (Nat.le_refl 5)), fun _ => updS_self, fun h => absurd h (no (by omega)), fun h => absurd h (no (by omega)), fun h => absurd h (no (by omega)), fun h => absurd h (no (by omega)), fun x hx => (ne x fun z => hx (by rw [z]; decide)).trans (a.rest x hx)⟩
  have g₅ := (g₃.trans (.no e₄)).roles (N := fun r => r = .sdic) (b := fun _ => c) (X := fun _ => False) (e₅.sub hdD3) (fun _ _ => hcs) fun _ h => h.elim
  have F₅ := Fr_eff' F₄ e₅ (fun z => hLD3 (hdD3 _ z)) hdD3 hB3
  have hLD5 : ¬ (fun x => D₃ x ∨ (∃ r, r = Role.sdic ∧ c = x) ∨ False) L := by
    rintro (z | ⟨r, rfl, z⟩ | z)
    · exact hLD3 z
    · exact hcL z
    · exact z
  have hslf5 : upR adr₃ .sdic c .slf = adr .slf := (upR_ne (by nofun)).trans hslf
  generalize hD5 : (fun x => D₃ x ∨ (∃ r, r = Role.sdic ∧ c = x) ∨ False) = D₅ at R₅ g₅ hLD5
  generalize upR adr₃ .sdic c = adr₅ at R₅ hslf5
  have hB5 := R₅.off
  obtain ⟨kv, hvar⟩ : ∃ k, s₅.heap.get? (adr₅ .vars) = some (listO (S.vars.map Value.bool).toArray k) := by
    obtain ⟨ov, h1, k, rfl⟩ := R₅.ok .vars (by show (3 : Nat) ≤ 6; omega); exact ⟨k, h1⟩
  have hmS : (fun z => (([("self", .ref (adr .slf))] : List (Str × Value))).reverse.lookup z) "self" = some (Value.ref (adr₅ .slf)) := hslf5 ▸ rfl
  refine wpAny_execs_cons (wpAny_For (Call_ (nmB G kf F₅ ?_)))
  refine PyProof.Rows.callWith_type1 ?_
  refine args_cons (wpAny_Constant_int ?_)
  refine args_cons (Call_ (nmB (s := { s₅ with toks := s₅.toks + 1 }) G kf F₅ (PyProof.Rows.callWith_builtin1 ?_)))
  refine args_cons ?_
  refine attr_name (s := { s₅ with toks := s₅.toks + 1 }) G F₅ kf.S hmS (R₅.h_vars (by show (3 : Nat) ≤ 6; omega)) (by decide) rfl (args_nil ?_)
  refine call_len_list (s := { s₅ with toks := s₅.toks + 1 + 1 }) (listO_is hvar) (by rw [List.size_toArray, List.length_map, hvs]; omega) (args_nil ?_)
  rw [show (((S.vars.map Value.bool).toArray.size : Nat) : Int) = (S.n : Int) + 1 by rw [List.size_toArray, List.length_map, hvs]; omega]
  refine call_range2 fun s₆ r tr ur vr hr0 hr e₆ => ?_
  have e56 : Eff No s₅ s₆ := ⟨fun b o n q => e₆.keep b o n q, e₆.gens, e₆.os⟩
  refine iter_rangeN hr ⟨by omega, by omega, by omega, by omega⟩ fun s₇ it T e₇ hit0 IT hT => ?_
  have e57 := e56.same e₇
  have hit : s₅.heap.get? it = none := e56.none hit0
  have hitD : ¬ D₅ it := R₅.new hit
  have hits : s.heap.get? it = none := Eff_fresh g₅.eff hit fun z => hitD (g₅.up _ z)
  have hitL : it ≠ L := fun z => by obtain ⟨ob, y⟩ := Fr_live F₅; rw [z] at hit; rw [hit] at y; cases y
  have F₇ := Fr_no F₅ e57
  rw [show ((S.n : Int) + 1 - 1).toNat = S.n by omega] at hT
  have hhp : adr₅ .hp ≠ it := fun z => hitD (z ▸ R₅.sub .hp (by show (5 : Nat) ≤ 6; omega))
  have hsd : adr₅ .sdic ≠ it := fun z => hitD (z ▸ R₅.sub .sdic (by show (6 : Nat) ≤ 6; omega))
  refine loop_iter (prog := prog) (w := w) (B := B) rm.deeper.hh IT (by simpa using Ne.symm hitL) (by simp) (fun b hb => by rw [List.mem_singleton] at hb; subst hb; exact (frOn F₅).none hit)
    (fun rem m' s' => ∃ (j : Nat) (Dj : Addr → Prop) (hp : List Int), j ≤ S.n ∧ rem = upFrom ((j : Int) + 1) (S.n - j) ∧ m' "self" = some (.ref (adr₅ .slf)) ∧ hp.Perm (litsOf j) ∧ Rep prog w B Dj adr₅ { S with hp := hp, sk := litsOf j, ph := 6 } s'.heap ∧ Gr D Dj s s' ∧ ¬ Dj L ∧ ¬ Dj it) ⟨0, D₅, [], Nat.zero_le _, rfl, hmS, .refl _, R₅.keep fun b o q => e57.all q, g₅.trans (.no e57), hLD5, hitD⟩ F₇ hT ?_ ?_
  · rintro y rem m₁ s₈ s₉ v ⟨j, Dj, hp, hj, hrem, hm1, hperm, R₈, g₈, hLDj, hitDj⟩ ⟨tk, rfl⟩ F₉ e₉ hal9
    obtain ⟨k, hk1⟩ : ∃ k, S.n - j = k + 1 := by
      cases q : S.n - j with
      | zero => rw [q] at hrem; cases hrem
      | succ k => exact ⟨k, rfl⟩
    rw [hk1, upFrom_succ] at hrem
    injection hrem with hy hrem
    subst hy
    have R₉ := R₈.eff e₉ fun b hb => by rcases hb with rfl | rfl; exact hitDj; exact hLDj
    have g₉ := g₈.loc e₉ fun b hb => by rcases hb with rfl | rfl; exact hits; exact hL
    have hBj := R₉.off
    have lit1 : IsLit S.n ((j : Int) + 1) := ⟨by omega, by omega⟩
    have lit2 : IsLit S.n (-((j : Int) + 1)) := ⟨by omega, by omega⟩
    have hm2 : (fun z => if z = Str.ofString "var" then some (Value.int ((j : Int) + 1) tk) else m₁ z) "self" = some (.ref (adr₅ .slf)) := by rw [← hm1]; exact if_neg (by decide)
    have hmv : (fun z => if z = Str.ofString "var" then some (Value.int ((j : Int) + 1) tk) else m₁ z) "var" = some (.int ((j : Int) + 1) tk) := if_pos rfl
    generalize (fun z => if z = Str.ofString "var" then some (Value.int ((j : Int) + 1) tk) else m₁ z) = m₂ at F₉ hm2 hmv
    have hsz : (litsOf j).length ≤ 1000 := by rw [litsOf_length]; omega
    have n1 : ((j : Int) + 1) ∉ litsOf j := fun z => by have := (mem_litsOf.mp z).2; omega
    have n2 : (-((j : Int) + 1)) ∉ litsOf j ++ [((j : Int) + 1)] := fun z => by
      rcases List.mem_append.mp z with z | z
      · have := (mem_litsOf.mp z).2; omega
      · simp at z; omega
    obtain ⟨oo, o1, o2⟩ := R₉.o_odct (by show (2 : Nat) ≤ 6; omega)
    obtain ⟨od, d1, d2⟩ := R₉.o_sdic (by show (6 : Nat) ≤ 6; omega)
    refine wpAny_execs_cons (wpAny_Assign_Subscript ?_)
    refine UnaryOp_ (Subscript_ (attr_name G F₉ kf.S hm2 (R₉.h_odct (by show (2 : Nat) ≤ 6; omega)) (by decide) rfl (ld F₉ hmv ?_)))
    refine itemMap o1 o2 (mem_litsOf.mpr lit1) fun vv hvv => ?_
    obtain ⟨iv, tv, rfl⟩ := hvv
    refine P.neg_int ?_
    refine attr_name (s := ⟨s₉.heap, s₉.gens, s₉.drawn, _, s₉.os⟩) G F₉ kf.S hm2 (R₉.h_sdic (by show (6 : Nat) ≤ 6; omega)) (by decide) rfl (ld (s := ⟨s₉.heap, s₉.gens, s₉.drawn, _, s₉.os⟩) F₉ hmv ?_)
    refine map_new (s := ⟨s₉.heap, s₉.gens, s₉.drawn, _, s₉.os⟩) d1 d2 n1 ⟨_, _, rfl⟩ hsz fun h₁₀ o₁₀ sb₁₀ ho₁₀ x₁₀ => ?_
    replace sb₁₀ : Heap.SameBut (adr₅ .sdic) s₉.heap h₁₀ := sb₁₀
    have R₁₀ := R₉.u_sdic (by show (6 : Nat) ≤ 6; omega) sb₁₀ ho₁₀ x₁₀
    have F₁₀ : Fr B L h₁₀ m₂ := Fr_eff' (s' := ⟨h₁₀, s₉.gens, s₉.drawn, s₉.toks, s₉.os⟩) (P := fun b => b = adr₅ .sdic) F₉ (sb_eff sb₁₀ rfl) (fun z => hLDj (z ▸ R₉.sub .sdic (by show (6 : Nat) ≤ 6; omega))) (fun b z => z ▸ R₉.sub .sdic (by show (6 : Nat) ≤ 6; omega)) hBj
    obtain ⟨oo', o1', o2'⟩ := R₁₀.o_odct (by show (2 : Nat) ≤ 6; omega)
    refine wpAny_execs_cons (wpAny_Assign_Subscript ?_)
    refine UnaryOp_ (Subscript_ ?_)
    refine attr_name (s := ⟨h₁₀, s₉.gens, s₉.drawn, _, s₉.os⟩) G F₁₀ kf.S hm2 (R₁₀.h_odct (by show (2 : Nat) ≤ 6; omega)) (by decide) rfl ?_
    refine UnaryOp_ (ld (s := ⟨h₁₀, s₉.gens, s₉.drawn, _, s₉.os⟩) F₁₀ hmv (P.neg_int ?_))
    refine itemMap (s := ⟨h₁₀, s₉.gens, s₉.drawn, _, s₉.os⟩) o1' o2' (mem_litsOf.mpr lit2) fun vv hvv => ?_
    obtain ⟨iv', tv', rfl⟩ := hvv
    refine P.neg_int ?_
    refine attr_name (s := ⟨h₁₀, s₉.gens, s₉.drawn, _, s₉.os⟩) G F₁₀ kf.S hm2 (R₁₀.h_sdic (by show (6 : Nat) ≤ 6; omega)) (by decide) rfl ?_
    refine UnaryOp_ (ld (s := ⟨h₁₀, s₉.gens, s₉.drawn, _, s₉.os⟩) F₁₀ hmv (P.neg_int ?_))
    refine map_new (s := ⟨h₁₀, s₉.gens, s₉.drawn, _, s₉.os⟩) ho₁₀ x₁₀ n2 ⟨_, _, rfl⟩ (by rw [List.length_append, litsOf_length]; show _ + 1 ≤ 1000; omega) fun h₁₁ o₁₁ sb₁₁ ho₁₁ x₁₁ => ?_
    replace sb₁₁ : Heap.SameBut (adr₅ .sdic) h₁₀ h₁₁ := sb₁₁
    have R₁₁ := R₁₀.u_sdic (by show (6 : Nat) ≤ 6; omega) sb₁₁ ho₁₁ x₁₁
    have F₁₁ : Fr B L h₁₁ m₂ := Fr_eff' (s := ⟨h₁₀, s₉.gens, s₉.drawn, s₉.toks, s₉.os⟩) (s' := ⟨h₁₁, s₉.gens, s₉.drawn, s₉.toks, s₉.os⟩) (P := fun b => b = adr₅ .sdic) F₁₀ (sb_eff (s := ⟨h₁₀, s₉.gens, s₉.drawn, s₉.toks, s₉.os⟩) sb₁₁ rfl) (fun z => hLDj (z ▸ R₉.sub .sdic (by show (6 : Nat) ≤ 6; omega))) (fun b z => z ▸ R₉.sub .sdic (by show (6 : Nat) ≤ 6; omega)) hBj
    have eK : litsOf j ++ [(j : Int) + 1] ++ [-((j : Int) + 1)] = litsOf (j + 1) := by show _ = litsOf j ++ [((j : Int) + 1), -((j : Int) + 1)]; rw [List.append_assoc]; rfl
    have R₁₁' : Rep prog w B Dj adr₅ { S with hp := hp, sk := litsOf (j + 1), ph := 6 } h₁₁ := by rw [← eK]; exact R₁₁
    have sdD := R₉.sub .sdic (by show (6 : Nat) ≤ 6; omega)
    have hpD := R₉.sub .hp (by show (5 : Nat) ≤ 6; omega)
    have hpl : hp.length ≤ 40 := by rw [hperm.length_eq, litsOf_length]; omega
    have hu : (A.deeper (envOf ("SATSolver." ++ "_vsids_init") (dScope (meth "_vsids_init")) L 157 (.ref 156))).units + 40 < cLine := by have := rm.un; show A.units + 3 + 40 < _; omega
    refine wpAny_execs_cons (push_stmtP (s := ⟨h₁₁, s₉.gens, s₉.drawn, _, s₉.os⟩) G kf F₁₁ R₁₁' hu (by show (6 : Nat) ≤ 6; omega) hm2 hmv (mem_litsOf.mpr ⟨by omega, by omega⟩) (by show hp.length < 10000; omega) ?_ hLDj)
    intro s₁₂ D₁ hp₁ p₁ R₁₂ up1 bk1 F₁₂ e12
    have e912 : Eff (fun b => b = adr₅ .hp ∨ b = adr₅ .sdic) s₉ s₁₂ := ⟨fun b o n q => e12.keep b o (fun z => n (.inl z)) ((sb₁₁.2 b fun z => n (.inr z)).trans ((sb₁₀.2 b fun z => n (.inr z)).trans q)), e12.gens, e12.os⟩
    have bk1' : ∀ b, D₁ b → Dj b ∨ s₉.heap.get? b = none := fun b z => by
      by_cases c : Dj b
      · exact .inl c
      · refine .inr ((bk1 b z).elim (fun y => absurd y c) fun y => ?_)
        cases q : s₉.heap.get? b with
        | none => rfl
        | some ob =>
          have q' : h₁₁.get? b = some ob := (sb₁₁.2 b fun z => c (z ▸ sdD)).trans ((sb₁₀.2 b fun z => c (z ▸ sdD)).trans q)
          rw [show h₁₁.get? b = none from y] at q'; cases q'
    have live9 : ∀ b, (∃ o, s₉.heap.get? b = some o) → ¬ Dj b → ¬ D₁ b := fun b ⟨ob, q⟩ n z => (bk1' b z).elim n fun y => by rw [q] at y; cases y
    have hLl : ∃ o, s₉.heap.get? L = some o := Fr_live F₉
    have hil : ∃ o, s₉.heap.get? it = some o := hal9 it (by simp)
    refine wpAny_execs_cons (push_stmtN G kf F₁₂ R₁₂ hu (by show (6 : Nat) ≤ 6; omega) hm2 hmv (mem_litsOf.mpr ⟨by omega, by omega⟩) (by show hp₁.length < 10000; rw [p₁.length_eq]; simp; omega) ?_ (live9 L hLl hLDj))
    intro s₁₃ D₂ hp₂ p₂ R₁₃ up2 bk2 F₁₃ e13
    have e913 : Eff (fun b => b = adr₅ .hp ∨ b = adr₅ .sdic) s₉ s₁₃ := e912.same (e13.sub fun b z => .inl z)
    have bk2' : ∀ b, D₂ b → Dj b ∨ s₉.heap.get? b = none := fun b z => by
      rcases bk2 b z with y | y
      · exact bk1' b y
      · by_cases c : Dj b
        · exact .inl c
        · exact .inr (Eff_fresh e912 y fun z => c (by rcases z with rfl | rfl; exact hpD; exact sdD))
    have live9' : ∀ b, (∃ o, s₉.heap.get? b = some o) → ¬ Dj b → ¬ D₂ b := fun b ⟨ob, q⟩ n z => (bk2' b z).elim n fun y => by rw [q] at y; cases y
    refine wpAny_execs_nil ⟨m₂, _, F₁₃, ⟨j + 1, D₂, hp₂, by omega, ?_, hm2, ?_, R₁₃, ?_, live9' L hLl hLDj, live9' it hil hitDj⟩, e913, ?_⟩
    · rw [hrem, show S.n - (j + 1) = k by omega]; rfl
    · refine p₂.trans ?_
      have := (p₁.append_right [-((j : Int) + 1)]).trans ((hperm.append_right [(j : Int) + 1]).append_right [-((j : Int) + 1)])
      rwa [eK] at this
    · exact g₉.trans (.grow e913 (fun b z => by rcases z with rfl | rfl; exact hpD; exact sdD) (fun b z => up2 b (up1 b z)) bk2')
    · rintro b (hb | hb) z
      · rw [List.mem_singleton] at hb; subst hb; exact z.elim (fun y => hhp y.symm) fun y => hsd y.symm
      · cases hb
  · rintro m₁ s₈ s₉ ⟨j, Dj, hp, hj, hrem, hm1, hperm, R₈, g₈, hLDj, hitDj⟩ F₉ e₉
    have hjn : j = S.n := by
      cases q : S.n - j with
      | zero => omega
      | succ k => rw [q] at hrem; cases hrem
    subst hjn
    exact wpAny_execs_nil (hq s₉ Dj adr₅ hp hperm (R₈.eff e₉ fun b z => z ▸ hitDj) (g₈.loc e₉ fun b z => z ▸ hits) hslf5)
end
end Dp
end
section
open PySem PySem.W PySem.Calls PyProof.Rows
namespace Dp
section
variable {prog : Program} {w : World} {K : Frag} {B : Heap} {A : Around} {E : Value → Shared → Prop} {s s' s₁ s₂ : Shared} {L a l x C : Addr} {m m' : Str → Option Value} {adr adr' : Role → Addr} {D D' : Addr → Prop} {S S' : SV} {h h' : Heap} {env : Env} {cn : Str} {cs : Scope} {cd : Value}
theorem set_plain {name : Str} {v : Value} {Q : Unit → Shared → Prop} (G : Bas w K B) (kf : KF K) (o : On B s.heap) (R : Rep prog w B D adr S s.heap) (hn : name ∈ sAttrs) (hz : S.ph ≤ 12) (hp1 : S'.ph = S.ph + 1)
    (hl : ∀ r, S'.live r ↔ S.live r) (hy : S'.syms = S.syms) (hatt : ∀ f, Att adr S f → Att adr S' (updS f name v))
    (hs : ∀ D own h' r o, S.live r → r ≠ .dct → RoleOk prog w D own adr h' S r o → RoleOk prog w D own adr h' S' r o)
    (hq : ∀ s', Rep prog w B D adr S' s'.heap → Eff (fun x => x = adr .dct) s s' → Q () s') :
    wpAny (model prog w) A (setAttr (.ref (adr .slf)) name v) Q E s := by
  have e : (fun x => D x ∨ (∃ r, (fun (_ : Role) => False) r ∧ (fun (_ : Role) => (0 : Addr)) r = x) ∨ (fun (_ : Addr) => False) x) = D := by
    funext x; exact propext ⟨fun z => z.elim id fun z => z.elim (fun ⟨_, y, _⟩ => y.elim) False.elim, .inl⟩
  refine set_grow (S' := S') (adr' := adr) (N := fun _ => False) (b := fun _ => 0) (X := fun _ => False) G kf o R hn hz hp1 (fun r => by rw [hl]; simp) (fun r h => h.elim) (fun r _ => rfl) (fun r h => h.elim) (fun r h => h.elim) (fun r r' h => h.elim) (fun x h => h.elim) hy (fun x h => h.elim (fun ⟨_, y, _⟩ => y.elim) False.elim) hatt (fun r h' _ h => h.elim) (fun h' r o hr hd x => hs _ _ _ _ _ hr hd x) fun s' R' e' => hq s' ?_ e'
  rw [← e]; exact R'
theorem rawset {name n : Str} {v : Value} {p : Pos} {dx : Addr} {es : List DictEntry} {k : Nat} {f : Str → Option Value} {Q : Shared → Prop} (G : Bas w K B) (kf : KF K) (F : Fr B L s.heap m) (hm : m n = some (.ref x)) (hx : s.heap.get? x = some (instObj 207 dx)) (hdx : s.heap.get? dx = some (dictOf es k)) (hd : Dic es f) (hz : es.length ≤ 400) (hn : name ∈ sAttrs) (hB : B.get? dx = none) (hxd : x ≠ dx) (hxL : dx ≠ L)
    (hq : ∀ s' es' k', Eff (fun b => b = dx) s s' → Fr B L s'.heap m → s'.heap.get? x = some (instObj 207 dx) → s'.heap.get? dx = some (dictOf es' k') → Dic es' (updS f name v) → es'.length ≤ es.length + 1 → Q s')
    (hk : cs.kind = .function := by rfl) (hl : (envOf cn cs L a cd).kindOf n = some .local := by rfl) (hdd : (n == ("__debug__" : Str)) = false := by decide) :
    wpAny (model prog w) A (eval (.Name n p) (envOf cn cs L a cd)) (fun ov s₁ => wpAny (model prog w) A (setAttr ov name v) (fun _ => Q) E s₁) E s := by
  refine ld F hm ?_ hk hl hdd
  refine inst_set (C := 207) (G.in (frOn F)) kf.S ⟨hx, rfl, rfl, hdx⟩ hn hd hz fun h₂ es₂ k₂ t₂ sb₂ ho₂ hz₂ hd₂ => ?_
  have e2 : Eff (fun b => b = dx) s ⟨h₂, s.gens, s.drawn, t₂, s.os⟩ := sb_eff sb₂ rfl
  exact hq _ es₂ k₂ e2 (Fr_eff F e2 (fun z => hxL z.symm) fun b o q z => by rw [z, hB] at q; cases q) (e2.keep _ _ hxd hx) ho₂ hd₂ hz₂
theorem Rep.lvset {lv : LV} {es : List DictEntry} {k : Nat} {f : Str → Option Value} {t : Tok} (R : Rep prog w B D adr S h) (hp : 8 ≤ S.ph) (hl : S.lvs = [lv]) (sb : Heap.SameBut lv.dc h h') (g : h'.get? lv.dc = some (dictOf es k)) (hd : Dic es f) (h1 : f "decision" = some (.int lv.dec t)) (h2 : f "flipped" = some (.bool lv.flip)) (h3 : f "var_settings" = some (.ref (adr (.lset 0)))) : Rep prog w B D adr S h' := by
  obtain ⟨ol, o1, kl, rfl, hlv⟩ := R.ok .lvs hp
  obtain ⟨⟨q1, q2, q3⟩, es0, k0, f0, t0, ⟨d1, d2, d3⟩, _⟩ := hlv 0 lv (by rw [hl]; rfl)
  have hne : ∀ b o, h.get? b = some o → o.data ≠ (dictOf es0 k0).data → b ≠ lv.dc := fun b o q n z => by rw [z, d3] at q; exact n (by rw [← Option.some.inj q])
  refine ⟨fun r hr => ?_, R.inj, R.sub, R.off, fun b hb => ?_, R.syms⟩
  · obtain ⟨o, a, b⟩ := R.ok r hr
    have hrd : adr r ≠ lv.dc := fun z => d2 ⟨r, hr, z⟩
    refine ⟨o, (sb.2 _ hrd).trans a, ?_⟩
    cases r <;> first | exact b | skip
    · obtain ⟨as, n, e, ff⟩ := b
      exact ⟨as, n, e, ff.imp fun x c ⟨oc, ⟨y1, y2, y3⟩, vs, k', y4, y5⟩ => ⟨oc, ⟨y1, y2, (sb.2 x (hne x oc y3 (by rw [y4]; intro z; cases z))).trans y3⟩, vs, k', y4, y5⟩⟩
    · obtain ⟨as, n, e, ff⟩ := b
      exact ⟨as, n, e, ff.imp fun x c ⟨i, t, t', ⟨y1, y2, y3⟩⟩ => ⟨i, t, t', y1, y2, (sb.2 x (hne x _ y3 (by intro z; cases z))).trans y3⟩⟩
    · obtain ⟨n, e, ff⟩ := b
      refine ⟨n, e, fun i lv' hi => ?_⟩
      have hi0 : i = 0 ∧ lv' = lv := by
        rw [hl] at hi
        cases i with
        | zero => exact ⟨rfl, (Option.some.inj hi).symm⟩
        | succ i => simp at hi
      obtain ⟨rfl, rfl⟩ := hi0
      exact ⟨⟨q1, q2, (sb.2 _ (hne _ _ q3 (by intro z; cases z))).trans q3⟩, es, k, f, t, ⟨d1, d2, g⟩, hd, h1, h2, h3⟩
  · by_cases z : b = lv.dc
    · subst z; exact ⟨_, g⟩
    · obtain ⟨o, q⟩ := R.alive b hb; exact ⟨o, (sb.2 b z).trans q⟩
end
end Dp
end
section
open PySem PySem.W PySem.Calls PyProof.Rows
namespace Dp
abbrev siEnv (L : Addr) : Env := envOf "SATSolver.__init__" (dScope (meth "__init__")) L 78 (.ref 77)
def siBody : List Stmt := dBody (meth "__init__")
section
variable {prog : Program} {w : World} {K : Frag} {B : Heap} {A : Around} {E : Value → Shared → Prop} {s s' s₁ s₂ : Shared} {L a l C : Addr} {m m' : Str → Option Value} {adr adr' : Role → Addr} {D D' : Addr → Prop} {S S' : SV} {h h' : Heap} {env : Env}
theorem eval_level0 {p fp pos : Pos} {k : Nat} {f : Str} {i : Int} {Q : Value → Shared → Prop} (G : Bas w K B) (kf : KF K) (F : Fr B L s.heap m) (rm : Rm A 2)
    (hq : ∀ s' ob dc st, NewLv w s ob dc st i false s' → Q (.ref ob) s') (hf : f = "Level" := by rfl) :
    wpAny (model prog w) A (eval (.Call (.Name f fp) [.Constant (.int i) k p] [] pos) (siEnv L)) Q E s := by
  subst hf
  refine Call_ (nmK G F kf.gLev (callWith_of (P := K.In) rfl (keeps_K kf.keepL) (evalArgs_plain (args_cons (wpAny_Constant_int (args_nil ⟨G.in (frOn F), wpAny_call ?_⟩))))))
  exact call_level G kf (frOn F) rm (.inl ⟨rfl, rfl⟩) fun s' ob dc st N => hq s' ob dc st ⟨⟨N.e.keep, N.e.gens, N.e.os⟩, N.n1, N.n2, N.n3, N.d1, N.d2, N.d3, N.o1, N.o2, N.o3, N.o4⟩
set_option maxHeartbeats 1000000 in
theorem init_tail {va : Addr} {Q : Flow → Shared → Prop} (G : Bas w K B) (kf : KF K) (F : Fr B L s.heap m) (R : Rep prog w B D adr S s.heap) (rm : Rm A 3) (hph : S.ph = 7) (hLD : ¬ D L) (hcz : S.cls.length ≤ 1000)
    (hm : m "self" = some (.ref (adr .slf))) (hmv : m "var_settings" = some (.ref va))
    (hq : ∀ s' D' adr' ob dc, Rep prog w B D' adr' { S with lvs := [⟨0, false, [], ob, dc⟩], ph := 11 } s'.heap → Gr D D' s s' → adr' .slf = adr .slf → Q .next s') :
    wpAny (model prog w) A (execs (siBody.drop 11) (siEnv L)) Q E s := by
  have hB := R.off
  have hdD : ∀ x, x = adr .dct → D x := fun x z => z ▸ R.sub .dct trivial
  refine wpAny_execs_cons (plainObj_wpAny_Assign_Attribute (List_ (args_cons (eval_level0 G kf F (rm.less (by omega)) fun s₁ ob dc st N => args_nil (new_list (by rw [sizeLine_eq]; simp) fun s₂ lb hl0 hl1 e₂ => ?_)))))
  have e02 : Eff No s s₂ := N.e.same e₂
  have F₂ := Fr_no F e02
  have R₂ := R.keep fun b o q => e02.all q
  have hls : s.heap.get? lb = none := N.e.none hl0
  obtain ⟨stO, hst1, hst2⟩ := N.o3
  have nlb : ∀ {c}, (∃ o, s₁.heap.get? c = some o) → lb ≠ c := fun {c} ⟨o, q⟩ z => by rw [← z, hl0] at q; cases q
  have l1 : lb ≠ ob := nlb ⟨_, N.o1⟩
  have l2 : lb ≠ st := nlb ⟨_, hst1⟩
  obtain ⟨esN, kN, hN1, hN2⟩ := N.o4
  have l3 : lb ≠ dc := nlb ⟨_, hN1⟩
  have nD : ∀ {c}, s.heap.get? c = none → ¬ D c := fun q => R.new q
  have hBn : ∀ {c}, s.heap.get? c = none → B.get? c = none := fun q => (frOn F).none q
  have nL : ∀ {c}, s.heap.get? c = none → c ≠ L := fun {c} q z => by obtain ⟨o, y⟩ := Fr_live F; rw [z] at q; rw [q] at y; cases y
  refine ld F₂ hm ?_
  refine set_grow (S' := { S with lvs := [⟨0, false, [], ob, dc⟩], ph := 8 }) (adr' := upR (upR adr (.lset 0) st) .lvs lb) (N := fun r => r = .lvs ∨ r = .lset 0) (b := upR (upR adr (.lset 0) st) .lvs lb) (X := fun x => x = ob ∨ x = dc) G kf (frOn F₂) R₂ (by decide) (by omega) (by show 8 = S.ph + 1; omega) ?_ ?_ ?_ (fun _ _ => rfl) ?_ ?_ ?_ rfl ?_ ?_ ?_ ?_ ?_
  · intro r; cases r <;> simp [SV.live, hph]
  · rintro r (rfl | rfl) <;> simp [SV.live, hph]
  · intro r hr
    rw [upR_ne, upR_ne]
    · rintro rfl; simp [SV.live, hph] at hr
    · rintro rfl; simp [SV.live, hph] at hr
  · rintro r (rfl | rfl)
    · rw [upR_self]; exact nD hls
    · rw [upR_ne (by nofun), upR_self]; exact nD N.n3
  · rintro r r' (rfl | rfl) (rfl | rfl) e
    · rfl
    · rw [upR_self, upR_ne (by nofun), upR_self] at e; exact absurd e l2
    · rw [upR_self, upR_ne (by nofun), upR_self] at e; exact absurd e.symm l2
    · rfl
  · rintro x (rfl | rfl)
    · refine ⟨nD N.n1, ⟨_, e₂.all N.o1⟩, ?_⟩
      rintro r (rfl | rfl)
      · rw [upR_self]; exact l1
      · rw [upR_ne (by nofun), upR_self]; exact N.d2.symm
    · refine ⟨nD N.n2, ⟨_, e₂.all hN1⟩, ?_⟩
      rintro r (rfl | rfl)
      · rw [upR_self]; exact l3
      · rw [upR_ne (by nofun), upR_self]; exact N.d3.symm
  · rintro x (⟨r, rfl | rfl, rfl⟩ | rfl | rfl)
    · rw [upR_self]; exact hBn hls
    · rw [upR_ne (by nofun), upR_self]; exact hBn N.n3
    · exact hBn N.n1
    · exact hBn N.n2
  · intro f a
    have ne : ∀ x : Str, x ≠ "levels" → updS f "levels" (.ref lb) x = f x := fun x hx => if_neg hx
    have no : ∀ {k : Nat}, 9 ≤ k → ¬ k ≤ 8 := fun h => by omega
    have h3 : ∀ {j : Nat}, j ≤ 7 → j ≤ S.ph := fun h => by omega
    exact ⟨(ne _ (by decide)).trans a.vset, (ne _ (by decide)).trans a.unsat, (ne _ (by decide)).trans a.que, (ne _ (by decide)).trans a.syms, fun _ => (ne _ (by decide)).trans (a.sdct (h3 (by omega))), fun _ => (ne _ (by decide)).trans (a.odct (h3 (by omega))), fun _ => (ne _ (by decide)).trans (a.vars (h3 (by omega))), fun _ => (ne _ (by decide)).trans (a.cls (h3 (by omega))), fun _ => (ne _ (by decide)).trans (a.hp (h3 (by omega))), fun _ => (ne _ (by decide)).trans (a.sdic (h3 (by omega))), fun _ => (ne _ (by decide)).trans (a.learn (h3 (by omega))), fun _ => updS_self, fun h => absurd h (no (by omega)), fun h => absurd h (no (by omega)), fun x hx => (ne x fun z => hx (by rw [z]; decide)).trans (a.rest x hx)⟩
  · rintro r h' sb (rfl | rfl)
    · rw [upR_self]
      refine ⟨_, hl1, fun _ => ⟨0, rfl, fun i lv hi => ?_⟩⟩
      have hi0 : i = 0 ∧ (⟨0, false, [], ob, dc⟩ : LV) = lv := by
        cases i with
        | zero => exact ⟨rfl, Option.some.inj hi⟩
        | succ i => simp at hi
      obtain ⟨rfl, rfl⟩ := hi0
      have hnd : ∀ {c}, s.heap.get? c = none → c ≠ adr .dct := fun q z => nD q (z ▸ R.sub .dct trivial)
      have nown : ∀ c, s.heap.get? c = none → c ≠ lb → c ≠ st → ¬ ownOf (upR (upR adr (.lset 0) st) .lvs lb) { S with lvs := [⟨0, false, [], ob, dc⟩], ph := 8 } c := by
        rintro c hc n1 n2 ⟨r, hr, hrc⟩
        by_cases q1 : r = .lvs
        · subst q1; rw [upR_self] at hrc; exact n1 hrc.symm
        · rw [upR_ne q1] at hrc
          by_cases q2 : r = .lset 0
          · subst q2; rw [upR_self] at hrc; exact n2 hrc.symm
          · rw [upR_ne q2] at hrc
            have hlr : S.live r := by
              cases r <;> first | exact absurd rfl q1 | simpa [SV.live, hph] using hr | skip
              rename_i i
              exfalso
              have h2 : i < 1 := hr.2
              exact q2 (by rw [show i = 0 by omega])
            exact nD hc (hrc ▸ R.sub _ hlr)
      obtain ⟨es, k, f, t, y1, y2, y3, y4, y5⟩ := N.o2
      exact ⟨⟨.inr (.inr (.inl rfl)), nown _ N.n1 (Ne.symm l1) N.d2, (sb.2 _ (hnd N.n1)).trans (e₂.all N.o1)⟩, es, k, f, t, ⟨.inr (.inr (.inr rfl)), nown _ N.n2 (Ne.symm l3) N.d3, (sb.2 _ (hnd N.n2)).trans (e₂.all y1)⟩, y2, y3, y4, y5⟩
    · rw [upR_ne (by nofun), upR_self]
      refine ⟨stO, e₂.all hst1, fun _ lv hi => ?_⟩
      have : (⟨0, false, [], ob, dc⟩ : LV) = lv := Option.some.inj hi
      subst this; exact hst2
  · intro h' r o hr hd x
    cases r <;> first | exact x | exact absurd rfl hd | (exfalso; simp [SV.live, hph] at hr)
  intro s₃ R₃ e₃
  have g₃ := (Gr.no (D := D) e02).roles (N := fun r => r = .lvs ∨ r = .lset 0) (b := upR (upR adr (.lset 0) st) .lvs lb) (X := fun x => x = ob ∨ x = dc) (e₃.sub hdD) (by
    rintro r (rfl | rfl)
    · rw [upR_self]; exact hls
    · rw [upR_ne (by nofun), upR_self]; exact N.n3) (by
    rintro x (rfl | rfl)
    · exact N.n1
    · exact N.n2)
  have F₃ := Fr_eff' F₂ e₃ (fun z => hLD (hdD _ z)) hdD hB
  have hLD3 : ¬ (fun x => D x ∨ (∃ r, (r = Role.lvs ∨ r = .lset 0) ∧ upR (upR adr (.lset 0) st) .lvs lb r = x) ∨ (x = ob ∨ x = dc)) L := by
    rintro (z | ⟨r, rfl | rfl, z⟩ | z | z)
    · exact hLD z
    · rw [upR_self] at z; exact nL hls z
    · rw [upR_ne (by nofun), upR_self] at z; exact nL N.n3 z
    · exact nL N.n1 z.symm
    · exact nL N.n2 z.symm
  have hslf3 : upR (upR adr (.lset 0) st) .lvs lb .slf = adr .slf := by rw [upR_ne (by nofun), upR_ne (by nofun)]
  have hdc3 : s₃.heap.get? dc = some (dictOf esN kN) := e₃.keep _ _ (fun z => nD N.n2 (z ▸ R.sub .dct trivial)) (e₂.all hN1)
  generalize hD3 : (fun x => D x ∨ (∃ r, (r = Role.lvs ∨ r = .lset 0) ∧ upR (upR adr (.lset 0) st) .lvs lb r = x) ∨ (x = ob ∨ x = dc)) = D₃ at R₃ g₃ hLD3
  have hdcD : D₃ dc := by rw [← hD3]; exact .inr (.inr (.inr rfl))
  generalize upR (upR adr (.lset 0) st) .lvs lb = adr₃ at R₃ hslf3
  have hm3 : m "self" = some (.ref (adr₃ .slf)) := hslf3 ▸ hm
  have hB3 := R₃.off
  refine wpAny_execs_cons (plainObj_wpAny_Assign_Attribute (ld F₃ hmv (cur_level (lv := ⟨0, false, [], ob, dc⟩) (r := []) G kf F₃ R₃ hm3 (by show (8 : Nat) ≤ 8; omega) rfl (by show (1 : Nat) ≤ 100; omega) (rm.less (by omega)) fun s₄ e₄ => ?_)))
  have F₄ := Fr_no F₃ e₄
  have R₄ := R₃.keep fun b o q => e₄.all q
  obtain ⟨ol, ol1, kl, rfl, hlv⟩ := R₄.ok .lvs (by show (8 : Nat) ≤ 8; omega)
  obtain ⟨⟨q1, q2, q3⟩, es0, k0, f0, t0, ⟨d1, d2, d3⟩, d4, d5, d6, d7⟩ := hlv 0 ⟨0, false, [], ob, dc⟩ rfl
  have hes : es0.length ≤ 10 := by
    have h1 : s₄.heap.get? dc = some (dictOf esN kN) := e₄.all hdc3
    rw [show s₄.heap.get? dc = some (dictOf es0 k0) from d3] at h1
    have h2 := congrArg Obj.data (Option.some.inj h1)
    have h3 : es0.toArray = esN.toArray := by injection h2
    have h4 : es0 = esN := congrArg Array.toList h3
    rw [h4]; exact hN2
  refine inst_set (C := 229) (G.in (frOn F₄)) kf.Lv ⟨q3, rfl, rfl, d3⟩ (by decide) d4 (by omega) fun h₅ es₅ k₅ t₅ sb₅ ho₅ hz₅ hd₅ => ?_
  have R₅ := R₄.lvset (lv := ⟨0, false, [], ob, dc⟩) (by show (8 : Nat) ≤ 8; omega) rfl sb₅ ho₅ hd₅ ((updS_ne (by decide)).trans d5) ((updS_ne (by decide)).trans d6) ((updS_ne (by decide)).trans d7)
  have e₅ : Eff (fun b => b = dc) s₄ ⟨h₅, s₄.gens, s₄.drawn, t₅, s₄.os⟩ := sb_eff sb₅ rfl
  have F₅ := Fr_eff' F₄ e₅ (fun z => hLD3 (z ▸ hdcD)) (fun x z => z ▸ hdcD) hB3
  have g₅ := g₃.trans ((Gr.no (D := D₃) e₄).trans (.of e₅ fun x z => z ▸ hdcD))
  have hLD5 := hLD3
  have R₅' : Rep prog w B D₃ adr₃ _ (⟨h₅, s₄.gens, s₄.drawn, t₅, s₄.os⟩ : Shared).heap := R₅
  clear R₅
  generalize (⟨h₅, s₄.gens, s₄.drawn, t₅, s₄.os⟩ : Shared) = s₅ at F₅ g₅ e₅ R₅' ⊢
  have hdD3 : ∀ x, x = adr₃ .dct → D₃ x := fun x z => z ▸ R₅'.sub .dct trivial
  refine wpAny_execs_cons (plainObj_wpAny_Assign_Attribute (wpAny_Constant_int (ld (s := ⟨s₅.heap, s₅.gens, s₅.drawn, _, s₅.os⟩) F₅ hm3 ?_)))
  refine set_plain (s := ⟨s₅.heap, s₅.gens, s₅.drawn, _, s₅.os⟩) (S' := { S with lvs := [⟨0, false, [], ob, dc⟩], ph := 9 }) G kf (frOn F₅) R₅' (by decide) (by show (8 : Nat) ≤ 12; omega) rfl (fun r => by cases r <;> simp [SV.live]) rfl (fun f a => ?_) (fun D own h' r o hr hd x => by cases r <;> first | exact x | exact absurd rfl hd) fun s₆ R₆ e₆' => ?_
  · have ne : ∀ (v : Value) (x : Str), x ≠ "num_decisions" → updS f "num_decisions" v x = f x := fun v x hx => if_neg hx
    have no : ¬ (10 : Nat) ≤ 9 := by omega
    exact ⟨(ne _ _ (by decide)).trans a.vset, (ne _ _ (by decide)).trans a.unsat, (ne _ _ (by decide)).trans a.que, (ne _ _ (by decide)).trans a.syms, fun _ => (ne _ _ (by decide)).trans (a.sdct (by show (1 : Nat) ≤ 8; omega)), fun _ => (ne _ _ (by decide)).trans (a.odct (by show (2 : Nat) ≤ 8; omega)), fun _ => (ne _ _ (by decide)).trans (a.vars (by show (3 : Nat) ≤ 8; omega)), fun _ => (ne _ _ (by decide)).trans (a.cls (by show (4 : Nat) ≤ 8; omega)), fun _ => (ne _ _ (by decide)).trans (a.hp (by show (5 : Nat) ≤ 8; omega)), fun _ => (ne _ _ (by decide)).trans (a.sdic (by show (6 : Nat) ≤ 8; omega)), fun _ => (ne _ _ (by decide)).trans (a.learn (by show (7 : Nat) ≤ 8; omega)), fun _ => (ne _ _ (by decide)).trans (a.lvs (Nat.le_refl 8)), fun _ => ⟨_, _, updS_self⟩, fun h => absurd h no, fun x hx => (ne _ x fun z => hx (by rw [z]; decide)).trans (a.rest x hx)⟩
  have e₆ : Eff (fun x => x = adr₃ .dct) s₅ s₆ := ⟨e₆'.keep, e₆'.gens, e₆'.os⟩
  have F₆ := Fr_eff' F₅ e₆ (fun z => hLD5 (hdD3 _ z)) hdD3 hB3
  have g₆ := g₅.trans (.of e₆ hdD3)
  refine wpAny_execs_cons (plainObj_wpAny_Assign_Attribute (wpAny_Constant_int (ld (s := ⟨s₆.heap, s₆.gens, s₆.drawn, _, s₆.os⟩) F₆ hm3 ?_)))
  refine set_plain (s := ⟨s₆.heap, s₆.gens, s₆.drawn, _, s₆.os⟩) (S' := { S with lvs := [⟨0, false, [], ob, dc⟩], ph := 10 }) G kf (frOn F₆) R₆ (by decide) (by show (9 : Nat) ≤ 12; omega) rfl (fun r => by cases r <;> simp [SV.live]) rfl (fun f a => ?_) (fun D own h' r o hr hd x => by cases r <;> first | exact x | exact absurd rfl hd) fun s₇ R₇ e₇' => ?_
  · have ne : ∀ (v : Value) (x : Str), x ≠ "num_learned_clauses" → updS f "num_learned_clauses" v x = f x := fun v x hx => if_neg hx
    exact ⟨(ne _ _ (by decide)).trans a.vset, (ne _ _ (by decide)).trans a.unsat, (ne _ _ (by decide)).trans a.que, (ne _ _ (by decide)).trans a.syms, fun _ => (ne _ _ (by decide)).trans (a.sdct (by show (1 : Nat) ≤ 9; omega)), fun _ => (ne _ _ (by decide)).trans (a.odct (by show (2 : Nat) ≤ 9; omega)), fun _ => (ne _ _ (by decide)).trans (a.vars (by show (3 : Nat) ≤ 9; omega)), fun _ => (ne _ _ (by decide)).trans (a.cls (by show (4 : Nat) ≤ 9; omega)), fun _ => (ne _ _ (by decide)).trans (a.hp (by show (5 : Nat) ≤ 9; omega)), fun _ => (ne _ _ (by decide)).trans (a.sdic (by show (6 : Nat) ≤ 9; omega)), fun _ => (ne _ _ (by decide)).trans (a.learn (by show (7 : Nat) ≤ 9; omega)), fun _ => (ne _ _ (by decide)).trans (a.lvs (by show (8 : Nat) ≤ 9; omega)), fun _ => by rw [ne _ _ (by decide)]; exact a.n1 (Nat.le_refl 9), fun _ => ⟨_, _, updS_self⟩, fun x hx => (ne _ x fun z => hx (by rw [z]; decide)).trans (a.rest x hx)⟩
  have e₇ : Eff (fun x => x = adr₃ .dct) s₆ s₇ := ⟨e₇'.keep, e₇'.gens, e₇'.os⟩
  have F₇ := Fr_eff' F₆ e₇ (fun z => hLD5 (hdD3 _ z)) hdD3 hB3
  have g₇ := g₆.trans (.of e₇ hdD3)
  obtain ⟨oc, hc1, as, kc, rfl, hcf⟩ := R₇.ok .cls (by show (4 : Nat) ≤ 10; omega)
  refine wpAny_execs_cons (plainObj_wpAny_Assign_Attribute (Call_ (nmB G kf F₇ (PyProof.Rows.callWith_builtin1 (args_cons ?_)))))
  refine attr_name G F₇ kf.S hm3 (R₇.h_cls (by show (4 : Nat) ≤ 10; omega)) (by decide) rfl (args_nil ?_)
  refine call_len_list (s := ⟨s₇.heap, s₇.gens, s₇.drawn, _, s₇.os⟩) (listO_is hc1) (by rw [List.size_toArray, List.length_map, hcf.length]; show ((S.cls.length : Nat) : Int) < _; omega) ?_
  refine ld (s := ⟨s₇.heap, s₇.gens, s₇.drawn, _, s₇.os⟩) F₇ hm3 ?_
  refine set_plain (s := ⟨s₇.heap, s₇.gens, s₇.drawn, _, s₇.os⟩) (S' := { S with lvs := [⟨0, false, [], ob, dc⟩], ph := 11 }) G kf (frOn F₇) R₇ (by decide) (by show (10 : Nat) ≤ 12; omega) rfl (fun r => by cases r <;> simp [SV.live]) rfl (fun f a => ?_) (fun D own h' r o hr hd x => by cases r <;> first | exact x | exact absurd rfl hd) fun s₈ R₈ e₈' => ?_
  · have ne : ∀ (v : Value) (x : Str), x ≠ "original_num_clauses" → updS f "original_num_clauses" v x = f x := fun v x hx => if_neg hx
    exact ⟨(ne _ _ (by decide)).trans a.vset, (ne _ _ (by decide)).trans a.unsat, (ne _ _ (by decide)).trans a.que, (ne _ _ (by decide)).trans a.syms, fun _ => (ne _ _ (by decide)).trans (a.sdct (by show (1 : Nat) ≤ 10; omega)), fun _ => (ne _ _ (by decide)).trans (a.odct (by show (2 : Nat) ≤ 10; omega)), fun _ => (ne _ _ (by decide)).trans (a.vars (by show (3 : Nat) ≤ 10; omega)), fun _ => (ne _ _ (by decide)).trans (a.cls (by show (4 : Nat) ≤ 10; omega)), fun _ => (ne _ _ (by decide)).trans (a.hp (by show (5 : Nat) ≤ 10; omega)), fun _ => (ne _ _ (by decide)).trans (a.sdic (by show (6 : Nat) ≤ 10; omega)), fun _ => (ne _ _ (by decide)).trans (a.learn (by show (7 : Nat) ≤ 10; omega)), fun _ => (ne _ _ (by decide)).trans (a.lvs (by show (8 : Nat) ≤ 10; omega)), fun _ => by rw [ne _ _ (by decide)]; exact a.n1 (by show (9 : Nat) ≤ 10; omega), fun _ => by rw [ne _ _ (by decide)]; exact a.n2 (Nat.le_refl 10), fun x hx => (ne _ x fun z => hx (by rw [z]; decide)).trans (a.rest x hx)⟩
  have e₈ : Eff (fun x => x = adr₃ .dct) s₇ s₈ := ⟨e₈'.keep, e₈'.gens, e₈'.os⟩
  exact wpAny_execs_nil (hq s₈ D₃ adr₃ ob dc R₈ (g₇.trans (.of e₈ hdD3)) hslf3)
end
end Dp
end
section
open PySem PySem.W PySem.Calls PyProof.Rows
namespace Dp
def siBinds (x cl0 rg va nn : Addr) (t1 t2 t3 : Tok) (cl : Str) : List (Str × Value) := [("self", .ref x), ("clauses", .ref cl0), ("variables", .ref rg), ("var_settings", .ref va), ("symbols", .ref nn), ("heuristic", .str "vsids" t1), ("clause_learning", .str cl t2), ("INTERVAL", .int 500 t3)]
def finS (n : Nat) (CL : List (List Int)) (hp : List Int) (ob dc : Addr) (lf : Bool) (nn : Addr) : SV :=
  let F := foldI 0 CL ⟨n, [], false, [], fun _ => [], List.replicate (n + 1) false, CL, [], [], lf, nn, [], 4⟩
  { F with hp := hp, sk := litsOf n, lvs := [⟨0, false, [], ob, dc⟩], ph := 11 }
theorem foldI_vars : ∀ (xs : List (List Int)) (k : Nat) (S : SV), (foldI k xs S).vars = S.vars
  | [], k, S => rfl
  | x :: r, k, S => (foldI_vars r (k + 1) (stepI S k x)).trans (by unfold stepI; split <;> rfl)
theorem foldI_learn : ∀ (xs : List (List Int)) (k : Nat) (S : SV), (foldI k xs S).learn = S.learn
  | [], k, S => rfl
  | x :: r, k, S => (foldI_learn r (k + 1) (stepI S k x)).trans (by unfold stepI; split <;> rfl)
section
variable {prog : Program} {w : World} {K : Frag} {B : Heap} {A : Around} {E : Value → Shared → Prop} {s s' s₁ s₂ : Shared} {L a l C : Addr} {m m' : Str → Option Value} {adr adr' : Role → Addr} {D D' : Addr → Prop} {S S' : SV} {h h' : Heap} {env : Env}
def adr0 (x dx va q : Addr) : Role → Addr
  | .slf => x
  | .dct => dx
  | .vset => va
  | _ => q
theorem init_rep {x dx va q nn : Addr} {n : Nat} {lf : Bool} {es : List DictEntry} {k : Nat} {f : Str → Option Value} {ov : Obj} {kq : Nat} (hx : h.get? x = some (instObj 207 dx)) (hdx : h.get? dx = some (dictOf es k)) (hd : Dic es f) (hz : es.length ≤ 20) (hv : h.get? va = some ov) (hv2 : IntSet w ov []) (hq : h.get? q = some (listO #[] kq))
    (hB : B.get? x = none ∧ B.get? dx = none ∧ B.get? va = none ∧ B.get? q = none) (hn : ∃ o, B.get? nn = some o)
    (f1 : f "var_settings" = some (.ref va)) (f2 : f "is_unsatisfied" = some (.bool false)) (f3 : f "_unit_prop_queue" = some (.ref q)) (f4 : f "symbols" = some (.ref nn)) (fr : ∀ z, z ∉ sAttrs → f z = none) :
    Rep prog w B (fun b => b = x ∨ b = dx ∨ b = va ∨ b = q) (adr0 x dx va q) ⟨n, [], false, [], fun _ => [], [], [], [], [], lf, nn, [], 0⟩ h := by
  generalize hS : (⟨n, [], false, [], fun _ => [], [], [], [], [], lf, nn, [], 0⟩ : SV) = S
  have hlive : ∀ r, S.live r ↔ (r = .slf ∨ r = .dct ∨ r = .vset ∨ r = .que) := fun r => by subst hS; cases r <;> simp [SV.live]
  have d1 : x ≠ dx := fun z => by rw [z, hdx] at hx; cases hx
  obtain ⟨es', ep, t, e, _⟩ := id hv2
  have d2 : x ≠ va := fun z => by rw [← z, hx] at hv; rw [e] at hv; cases hv
  have d3 : x ≠ q := fun z => by rw [← z, hx] at hq; cases hq
  have d4 : dx ≠ va := fun z => by rw [← z, hdx] at hv; rw [e] at hv; have z2 := congrArg Obj.data (Option.some.inj hv); cases z2
  have d5 : dx ≠ q := fun z => by rw [← z, hdx] at hq; have z2 := congrArg Obj.data (Option.some.inj hq); cases z2
  have d6 : va ≠ q := fun z => by rw [← z, hv] at hq; rw [e] at hq; have z2 := congrArg Obj.data (Option.some.inj hq); cases z2
  refine ⟨fun r hr => ?_, fun r r' hr hr' e => ?_, fun r hr => ?_, fun b hb => ?_, fun b hb => ?_, by subst hS; exact hn⟩
  · rcases (hlive r).mp hr with rfl | rfl | rfl | rfl
    · exact ⟨_, hx, rfl⟩
    · refine ⟨_, hdx, es, k, f, rfl, by omega, hd, ?_⟩
      subst hS
      have no : ∀ {k : Nat}, 1 ≤ k → ¬ k ≤ 0 := fun h => by omega
      exact ⟨f1, f2, f3, f4, fun h => absurd h (no (by omega)), fun h => absurd h (no (by omega)), fun h => absurd h (no (by omega)), fun h => absurd h (no (by omega)), fun h => absurd h (no (by omega)), fun h => absurd h (no (by omega)), fun h => absurd h (no (by omega)), fun h => absurd h (no (by omega)), fun h => absurd h (no (by omega)), fun h => absurd h (no (by omega)), fr⟩
    · exact ⟨_, hv, by subst hS; exact hv2⟩
    · refine ⟨_, hq, ?_⟩
      subst hS
      exact ⟨[], kq, rfl, .nil⟩
  · rcases (hlive r).mp hr with rfl | rfl | rfl | rfl <;> rcases (hlive r').mp hr' with rfl | rfl | rfl | rfl <;> first | rfl | exact absurd e d1 | exact absurd e d2 | exact absurd e d3 | exact absurd e d4 | exact absurd e d5 | exact absurd e d6 | exact absurd e.symm d1 | exact absurd e.symm d2 | exact absurd e.symm d3 | exact absurd e.symm d4 | exact absurd e.symm d5 | exact absurd e.symm d6
  · rcases (hlive r).mp hr with rfl | rfl | rfl | rfl
    · exact .inl rfl
    · exact .inr (.inl rfl)
    · exact .inr (.inr (.inl rfl))
    · exact .inr (.inr (.inr rfl))
  · rcases hb with rfl | rfl | rfl | rfl
    · exact hB.1
    · exact hB.2.1
    · exact hB.2.2.1
    · exact hB.2.2.2
  · rcases hb with rfl | rfl | rfl | rfl
    · exact ⟨_, hx⟩
    · exact ⟨_, hdx⟩
    · exact ⟨_, hv⟩
    · exact ⟨_, hq⟩
set_option maxHeartbeats 1000000 in
theorem init_body {pm : Value} {args : Args} {x dx cl0 rg va nn : Addr} {t1 t2 t3 tr ur vr : Tok} {cl : Str} {lf : Bool} {n k0 : Nat} {xs : List (Addr × List Int)} {Rr : Result → Shared → Prop} (G : Bas w K B) (kf : KF K) (o : On B s.heap) (rm : Rm A 5)
    (hb : BindsTo s (fdOf (meth "__init__") "__init__" "SATSolver.__init__" (.ref 71) pm 77) args (siBinds x cl0 rg va nn t1 t2 t3 cl)) (hat : K.lookup 78 = some ⟨.type "function", none, .func (fdOf (meth "__init__") "__init__" "SATSolver.__init__" (.ref 71) pm 77), #[]⟩)
    (hcl : (cl = "simple" ∧ lf = true) ∨ (cl = "none" ∧ lf = false))
    (hx : s.heap.get? x = some (instObj 207 dx)) (hdx : s.heap.get? dx = some (dictOf [] 0)) (hv : ∃ ov, s.heap.get? va = some ov ∧ IntSet w ov [])
    (hB : B.get? x = none ∧ B.get? dx = none ∧ B.get? va = none) (hnn : ∃ o, B.get? nn = some o) (hn : n ≤ 20)
    (hr : IsRange s.heap rg 1 ((n : Int) + 1) 1 tr ur vr)
    (hl : s.heap.get? cl0 = some (listO (xs.map fun p => Value.ref p.1).toArray k0)) (hsets : ∀ p ∈ xs, (∃ o, s.heap.get? p.1 = some o ∧ IntSet w o p.2) ∧ p.2.length < 1000 ∧ p.2 ≠ [] ∧ ∀ x ∈ p.2, IsLit n x) (hz : xs.length ≤ 100)
    (hdis : ∀ b, b = cl0 ∨ b = rg ∨ (∃ p ∈ xs, p.1 = b) → b ≠ x ∧ b ≠ dx ∧ b ≠ va)
    (hq : ∀ s' D' adr' CL hp ob dc, F2 (fun (p : Addr × List Int) c => c.Perm p.2) xs CL → hp.Perm (litsOf n) → Rep prog w B D' adr' (finS n CL hp ob dc lf nn) s'.heap → Gr (fun b => b = x ∨ b = dx ∨ b = va) D' s s' → adr' .slf = x → Rr (.ok (.ret .none)) s') :
    codeAny (model prog w) A (.call (.ref 78) args) Rr s := by
  refine call_fn (st := meth "__init__") G o hat kf.fSI.code rm.room hb (locs rfl) (fun h₁ L F hL hk => ?_)
  have hxd : x ≠ dx := fun z => by rw [z, hdx] at hx; cases hx
  have hdL : dx ≠ L := fun z => by rw [z, hL] at hdx; cases hdx
  have hx1 := hk _ _ hx
  have hd1 := hk _ _ hdx
  have hmS : (fun y => (siBinds x cl0 rg va nn t1 t2 t3 cl).reverse.lookup y) "self" = some (.ref x) := rfl
  refine wpAny_execs_cons (plainObj_wpAny_Assign_Attribute (ld F rfl ?_))
  refine rawset (s := ⟨h₁, s.gens, s.drawn, _, s.os⟩) G kf F hmS hx1 hd1 (f := fun _ => none) (fun y => rfl) (by simp) (by decide) hB.2.1 hxd hdL fun s₂ es₂ k₂ e₂ F₂ hx₂ hd₂ hc₂ hz₂ => ?_
  refine wpAny_execs_cons (plainObj_wpAny_Assign_Attribute (ld F₂ rfl ?_))
  refine rawset G kf F₂ hmS hx₂ hd₂ hc₂ (by simp at hz₂; omega) (by decide) hB.2.1 hxd hdL fun s₃ es₃ k₃ e₃ F₃ hx₃ hd₃ hc₃ hz₃ => ?_
  refine wpAny_execs_cons (plainObj_wpAny_Assign_Attribute (wpAny_Constant_bool ?_))
  refine rawset G kf F₃ hmS hx₃ hd₃ hc₃ (by simp at hz₂; omega) (by decide) hB.2.1 hxd hdL fun s₄ es₄ k₄ e₄ F₄ hx₄ hd₄ hc₄ hz₄ => ?_
  refine wpAny_execs_cons (plainObj_wpAny_Assign_Attribute (List_ (args_nil (new_list (by rw [sizeLine_eq]; simp) fun s₅ q hq0 hq1 e₅ => ?_))))
  refine rawset G kf (Fr_no F₄ e₅) hmS (e₅.all hx₄) (e₅.all hd₄) hc₄ (by simp at hz₂; omega) (by decide) hB.2.1 hxd hdL fun s₆ es₆ k₆ e₆ F₆ hx₆ hd₆ hc₆ hz₆ => ?_
  refine wpAny_execs_cons (plainObj_wpAny_Assign_Attribute (List_ (args_nil (new_list (by rw [sizeLine_eq]; simp) fun s₇ u hu0 hu1 e₇ => ?_))))
  refine rawset G kf (Fr_no F₆ e₇) hmS (e₇.all hx₆) (e₇.all hd₆) hc₆ (by simp at hz₂; omega) (by decide) hB.2.1 hxd hdL fun s₈ es₈ k₈ e₈ F₈ hx₈ hd₈ hc₈ hz₈ => ?_
  refine wpAny_execs_cons (plainObj_wpAny_Assign_Attribute (ld F₈ rfl ?_))
  refine rawset G kf F₈ hmS hx₈ hd₈ hc₈ (by simp at hz₂; omega) (by decide) hB.2.1 hxd hdL fun s₉ es₉ k₉ e₉ F₉ hx₉ hd₉ hc₉ hz₉ => ?_
  refine wpAny_execs_cons (wpAny_If (wpAny_isTrue_Compare1 (ld F₉ rfl (wpAny_Constant_none (is_ref_none (wpAny_truthy_bool ?_))))))
  rw [if_neg (by decide)]
  refine wpAny_execs_cons (plainObj_wpAny_Assign_Attribute (ld F₉ rfl ?_))
  refine rawset G kf F₉ hmS hx₉ hd₉ hc₉ (by simp at hz₂; omega) (by decide) hB.2.1 hxd hdL fun s₁₀ es₁₀ k₁₀ e₁₀ F₁₀ hx₁₀ hd₁₀ hc₁₀ hz₁₀ => ?_
  refine wpAny_execs_nil ?_
  have e12 : Eff (fun b => b = dx) s s₂ := ⟨fun b o n q => e₂.keep b o n (hk b o q), e₂.gens, e₂.os⟩
  have e14 : Eff (fun b => b = dx) s s₄ := (e12.same e₃).same e₄
  have e1t : Eff (fun b => b = dx) s s₁₀ := (((((e14.same e₅.no).same e₆).same e₇.no).same e₈).same e₉).same e₁₀
  have hqd : q ≠ dx := fun z => by rw [z, hd₄] at hq0; cases hq0
  have hqs : s.heap.get? q = none := Eff_fresh e14 hq0 hqd
  have hqL : q ≠ L := fun z => by obtain ⟨ob, y⟩ := Fr_live F₄; rw [z] at hq0; rw [hq0] at y; cases y
  obtain ⟨ov, hv1, hv2⟩ := hv
  have hvd : va ≠ dx := fun z => by
    obtain ⟨es', ep, t, e, _⟩ := id hv2
    rw [z, hdx] at hv1; rw [e] at hv1; have z2 := congrArg Obj.data (Option.some.inj hv1); cases z2
  have hq10 : s₁₀.heap.get? q = some (listO #[] 0) := ((((e₆.same e₇.no).same e₈).same e₉).same e₁₀).keep _ _ hqd hq1
  have R₀ := init_rep (prog := prog) (w := w) (B := B) (n := n) (lf := lf) (q := q) hx₁₀ hd₁₀ hc₁₀ (by simp at hz₂; omega) (e1t.keep _ _ hvd hv1) hv2 hq10 ⟨hB.1, hB.2.1, hB.2.2, o.none hqs⟩ hnn
    (by repeat rw [updS_ne (by decide)]
        rw [updS_self]) (by repeat rw [updS_ne (by decide)]
                            rw [updS_self]) (by repeat rw [updS_ne (by decide)]
                                                rw [updS_self]) (by rw [updS_self])
    (fun z hz => by
      have hne : ∀ y ∈ sAttrs, z ≠ y := fun y hy e => hz (e ▸ hy)
      rw [updS_ne (hne _ (by decide)), updS_ne (hne _ (by decide)), updS_ne (hne _ (by decide)), updS_ne (hne _ (by decide)), updS_ne (hne _ (by decide)), updS_ne (hne _ (by decide)), updS_ne (hne _ (by decide))])
  have g₀ : Gr (fun b => b = x ∨ b = dx ∨ b = va) (fun b => b = x ∨ b = dx ∨ b = va ∨ b = q) s s₁₀ :=
    ⟨fun b z => z.elim .inl fun z => z.elim (fun z => .inr (.inl z)) fun z => .inr (.inr (.inl z)), fun b z => z.elim (fun z => .inl (.inl z)) fun z => z.elim (fun z => .inl (.inr (.inl z))) fun z => z.elim (fun z => .inl (.inr (.inr z))) fun z => .inr (z ▸ hqs), e1t.sub fun b z => .inr (.inl z)⟩
  have hLD : ¬ (fun b => b = x ∨ b = dx ∨ b = va ∨ b = q) L := by
    rintro (z | z | z | z)
    · rw [z, hx] at hL; cases hL
    · rw [z, hdx] at hL; cases hL
    · rw [z, hv1] at hL; cases hL
    · exact hqL z.symm
  have hnD : ∀ b, b = cl0 ∨ b = rg ∨ (∃ p ∈ xs, p.1 = b) → (∃ ob, s.heap.get? b = some ob) → ¬ (fun b => b = x ∨ b = dx ∨ b = va ∨ b = q) b := by
    rintro b hb ⟨ob, hob⟩ (z | z | z | z)
    · exact (hdis b hb).1 z
    · exact (hdis b hb).2.1 z
    · exact (hdis b hb).2.2 z
    · rw [z, hqs] at hob; cases hob
  have hslf : adr0 x dx va q .slf = x := rfl
  generalize (fun b => b = x ∨ b = dx ∨ b = va ∨ b = q) = D₀ at R₀ g₀ hLD hnD
  generalize adr0 x dx va q = A₀ at R₀ hslf
  have old : ∀ b, b = cl0 ∨ b = rg ∨ (∃ p ∈ xs, p.1 = b) → ∀ ob, s.heap.get? b = some ob → b ≠ dx := fun b hb ob _ => (hdis b hb).2.1
  have hr10 : IsRange s₁₀.heap rg 1 ((n : Int) + 1) 1 tr ur vr := e1t.keep _ _ (hdis rg (.inr (.inl rfl))).2.1 hr
  refine wpAny_execs_cons (wpAny_Expr (self_call G F₁₀ kf.S kf.fIV R₀ (hslf ▸ rfl) (by decide) (args_cons (ld F₁₀ rfl (args_nil ⟨(frOn F₁₀), ?_⟩)))))
  refine call_init_vars G kf (frOn F₁₀) R₀ (rm.deeper.less (by omega)) rfl hr10 (hnD _ (.inr (.inl rfl)) ⟨_, hr⟩) hn fun s₁₁ D₁ A₁ R₁ g₁ ha₁ => ?_
  have hB0 := R₀.off
  have F₁₁ := g₁.fr F₁₀ hLD hB0
  have hLl : ∀ {s₀ : Shared} {m₀}, Fr B L s₀.heap m₀ → ∃ o, s₀.heap.get? L = some o := fun F => Fr_live F
  have hLD1 := g₁.notin hLD (hLl F₁₀)
  have g01 := g₀.trans g₁
  have hnD1 : ∀ b, b = cl0 ∨ b = rg ∨ (∃ p ∈ xs, p.1 = b) → ∀ ob, s.heap.get? b = some ob → ¬ D₁ b ∧ s₁₁.heap.get? b = some ob := fun b hb ob q => by
    have n0 := hnD b hb ⟨ob, q⟩
    have q10 := e1t.keep b ob (hdis b hb).2.1 q
    exact ⟨g₁.notin n0 ⟨_, q10⟩, g₁.eff.keep _ _ n0 q10⟩
  have hslf1 := ha₁.trans hslf
  refine wpAny_execs_cons (wpAny_Expr (self_call G F₁₁ kf.S kf.fIC R₁ (hslf1 ▸ rfl) (by decide) (args_cons (ld F₁₁ rfl (args_nil ⟨(frOn F₁₁), ?_⟩)))))
  refine call_init_clauses (xs := xs) G kf (frOn F₁₁) R₁ (rm.deeper.less (by omega)) rfl hn (hnD1 _ (.inl rfl) _ hl).2 (fun p hp => by
    obtain ⟨⟨ob, y1, y2⟩, y3⟩ := hsets p hp
    exact ⟨⟨ob, (hnD1 _ (.inr (.inr ⟨p, hp, rfl⟩)) _ y1).2, y2⟩, y3⟩) hz (fun _ => rfl) rfl fun s₁₂ D₂ A₂ CL hperm R₂ g₂ ha₂ => ?_
  have F₁₂ := g₂.fr F₁₁ hLD1 R₁.off
  have hLD2 := g₂.notin hLD1 (hLl F₁₁)
  have g02 := g01.trans g₂
  have hslf2 := ha₂.trans hslf1
  have fS := foldI_same CL 0 ({ n := n, vs := [], unsat := false, que := [], sent := fun _ => [], vars := List.replicate (n + 1) false, cls := CL, hp := [], lvs := [], learn := lf, syms := nn, sk := [], ph := 4 } : SV)
  refine wpAny_execs_cons (wpAny_If (wpAny_isTrue_Compare1 (wpAny_Constant_str (ld F₁₂ rfl (PyProof.Rows.eq_str (wpAny_truthy_bool ?_))))))
  rw [if_pos (by decide)]
  refine wpAny_execs_cons (wpAny_Expr (self_call0 G F₁₂ kf.S kf.fVI R₂ (hslf2 ▸ rfl) (by decide) ?_))
  refine call_vsids_init G kf (frOn F₁₂) R₂ (rm.deeper.less (by omega)) fS.2.1 (by rw [fS.1]; exact hn) (by rw [foldI_vars, fS.1]; exact List.length_replicate) fun s₁₃ D₃ A₃ hp hhp R₃ g₃ ha₃ => ?_
  have F₁₃ := g₃.fr (s := ⟨s₁₂.heap, s₁₂.gens, s₁₂.drawn, _, s₁₂.os⟩) F₁₂ hLD2 R₂.off
  have hLD3 := g₃.notin hLD2 (hLl F₁₂)
  have g03 : Gr (fun b => b = x ∨ b = dx ∨ b = va) D₃ s s₁₃ := g02.trans ⟨g₃.up, g₃.back, ⟨g₃.eff.keep, g₃.eff.gens, g₃.eff.os⟩⟩
  have hslf3 := ha₃.trans hslf2
  have hR3 : (foldI 0 CL ({ n := n, vs := [], unsat := false, que := [], sent := fun _ => [], vars := List.replicate (n + 1) false, cls := CL, hp := [], lvs := [], learn := lf, syms := nn, sk := [], ph := 4 } : SV)).n = n := fS.1
  rw [hR3] at hhp
  have hlrn := foldI_learn CL 0 ({ n := n, vs := [], unsat := false, que := [], sent := fun _ => [], vars := List.replicate (n + 1) false, cls := CL, hp := [], lvs := [], learn := lf, syms := nn, sk := [], ph := 4 } : SV)
  generalize hF : foldI 0 CL ({ n := n, vs := [], unsat := false, que := [], sent := fun _ => [], vars := List.replicate (n + 1) false, cls := CL, hp := [], lvs := [], learn := lf, syms := nn, sk := [], ph := 4 } : SV) = SF at R₃ fS hR3 hlrn
  refine wpAny_execs_nil ?_
  have hcll : CL.length ≤ 1000 := by rw [← hperm.length]; omega
  have key : ∀ (v : Bool), v = lf → ∀ tk (Q : Flow → Shared → Prop), (∀ s' D' adr' ob dc, Rep prog w B D' adr' { SF with hp := hp, sk := litsOf SF.n, lvs := [⟨0, false, [], ob, dc⟩], ph := 11 } s'.heap → Gr D₃ D' s₁₃ s' → adr' .slf = A₃ .slf → Q .next s') →
      wpAny (model prog w) (A.deeper (siEnv L)) (setAttr (.ref (A₃ .slf)) "learning" (.bool v)) (fun _ s' => wpAny (model prog w) (A.deeper (siEnv L)) (execs (siBody.drop 11) (siEnv L)) Q (fun _ _ => False) s') (fun _ _ => False) ⟨s₁₃.heap, s₁₃.gens, s₁₃.drawn, tk, s₁₃.os⟩ := by
    intro v hvl tk Q hQ
    subst hvl
    refine set_plain (s := ⟨s₁₃.heap, s₁₃.gens, s₁₃.drawn, tk, s₁₃.os⟩) (S' := { SF with hp := hp, sk := litsOf SF.n, ph := 7 }) G kf (frOn F₁₃) R₃ (by decide) (by show (6 : Nat) ≤ 12; omega) rfl (fun r => by cases r <;> simp [SV.live]) rfl (fun f a => ?_) (fun D own h' r o hr hd x => by cases r <;> first | exact x | exact absurd rfl hd) fun s₁₄ R₄ e₁₄ => ?_
    · have ne : ∀ (v : Value) (x : Str), x ≠ "learning" → updS f "learning" v x = f x := fun v x hx => if_neg hx
      have no : ∀ {k : Nat}, 8 ≤ k → ¬ k ≤ 7 := fun h => by omega
      exact ⟨(ne _ _ (by decide)).trans a.vset, (ne _ _ (by decide)).trans a.unsat, (ne _ _ (by decide)).trans a.que, (ne _ _ (by decide)).trans a.syms, fun _ => (ne _ _ (by decide)).trans (a.sdct (by show (1 : Nat) ≤ 6; omega)), fun _ => (ne _ _ (by decide)).trans (a.odct (by show (2 : Nat) ≤ 6; omega)), fun _ => (ne _ _ (by decide)).trans (a.vars (by show (3 : Nat) ≤ 6; omega)), fun _ => (ne _ _ (by decide)).trans (a.cls (by show (4 : Nat) ≤ 6; omega)), fun _ => (ne _ _ (by decide)).trans (a.hp (by show (5 : Nat) ≤ 6; omega)), fun _ => (ne _ _ (by decide)).trans (a.sdic (Nat.le_refl 6)), fun _ => by rw [updS_self, hlrn], fun h => absurd h (no (by omega)), fun h => absurd h (no (by omega)), fun h => absurd h (no (by omega)), fun x hx => (ne _ x fun z => hx (by rw [z]; decide)).trans (a.rest x hx)⟩
    have e₁₄' : Eff (fun x => x = A₃ .dct) s₁₃ s₁₄ := ⟨e₁₄.keep, e₁₄.gens, e₁₄.os⟩
    have hdD : ∀ x, x = A₃ .dct → D₃ x := fun x z => z ▸ R₃.sub .dct trivial
    have F₁₄ := Fr_eff' F₁₃ e₁₄' (fun z => hLD3 (hdD _ z)) hdD R₃.off
    refine init_tail (va := va) G kf F₁₄ R₄ (rm.deeper.less (by omega)) rfl hLD3 (by show SF.cls.length ≤ 1000; rw [fS.2.2]; exact hcll) (hslf3 ▸ rfl) rfl fun s' D' adr' ob dc R' g' ha' => hQ s' D' adr' ob dc R' ((Gr.of e₁₄' hdD).trans g') ha'
  have kfin : ∀ s' D' adr' ob dc, Rep prog w B D' adr' { SF with hp := hp, sk := litsOf SF.n, lvs := [⟨0, false, [], ob, dc⟩], ph := 11 } s'.heap → Gr D₃ D' s₁₃ s' → adr' .slf = A₃ .slf → Rr (.ok (.ret .none)) s' := fun s' D' adr' ob dc R' g' ha' => hq s' D' adr' CL hp ob dc hperm hhp (by
    have e : finS n CL hp ob dc lf nn = { SF with hp := hp, sk := litsOf SF.n, lvs := [⟨0, false, [], ob, dc⟩], ph := 11 } := by unfold finS; dsimp only; simp only [hF, hR3]
    rw [e]; exact R') (g03.trans g') (ha'.trans hslf3)
  rcases hcl with ⟨rfl, rfl⟩ | ⟨rfl, rfl⟩
  · refine wpAny_execs_cons (wpAny_If (wpAny_isTrue_Compare1 (wpAny_Constant_str (ld (s := ⟨s₁₃.heap, s₁₃.gens, s₁₃.drawn, _, s₁₃.os⟩) F₁₃ rfl (PyProof.Rows.eq_str (wpAny_truthy_bool ?_))))))
    rw [if_pos (by decide)]
    refine wpAny_execs_cons (plainObj_wpAny_Assign_Attribute (wpAny_Constant_bool (ld (s := ⟨s₁₃.heap, s₁₃.gens, s₁₃.drawn, _, s₁₃.os⟩) F₁₃ (show _ = some (Value.ref (A₃ .slf)) from hslf3 ▸ rfl) ?_)))
    refine wpAny_mono (key true rfl _ _ fun s' D' adr' ob dc R' g' ha' => kfin s' D' adr' ob dc R' g' ha') (fun _ s' h => wpAny_execs_nil h) fun _ _ h => h
  · refine wpAny_execs_cons (wpAny_If (wpAny_isTrue_Compare1 (wpAny_Constant_str (ld (s := ⟨s₁₃.heap, s₁₃.gens, s₁₃.drawn, _, s₁₃.os⟩) F₁₃ rfl (PyProof.Rows.eq_str (wpAny_truthy_bool ?_))))))
    rw [if_neg (by decide)]
    refine wpAny_execs_cons (wpAny_If (wpAny_isTrue_Compare1 (wpAny_Constant_str (ld (s := ⟨s₁₃.heap, s₁₃.gens, s₁₃.drawn, _, s₁₃.os⟩) F₁₃ rfl (PyProof.Rows.eq_str (wpAny_truthy_bool ?_))))))
    rw [if_pos (by decide)]
    refine wpAny_execs_cons (plainObj_wpAny_Assign_Attribute (wpAny_Constant_bool (ld (s := ⟨s₁₃.heap, s₁₃.gens, s₁₃.drawn, _, s₁₃.os⟩) F₁₃ (show _ = some (Value.ref (A₃ .slf)) from hslf3 ▸ rfl) ?_)))
    refine wpAny_mono (key false rfl _ _ fun s' D' adr' ob dc R' g' ha' => kfin s' D' adr' ob dc R' g' ha') (fun _ s' h => wpAny_execs_nil (wpAny_execs_nil h)) fun _ _ h => h
end
end Dp
end
section
open PySem PySem.W PySem.Calls PyProof.Rows
namespace Dp
theorem head_mem {cl : List Int} (h : cl ≠ []) : cl.headD 0 ∈ cl := by cases cl with | nil => exact absurd rfl h | cons a r => simp
theorem last_mem {cl : List Int} (h : cl ≠ []) : cl.getLastD 0 ∈ cl := by
  rcases snoc_or cl with z | ⟨q, z, rfl⟩
  · exact absurd z h
  · simp
theorem stepI_sent {S : SV} {i : Nat} {cl : List Int} {c l : Int} : c ∈ (stepI S i cl).sent l ↔ c ∈ S.sent l ∨ (c = i ∧ cl.length ≠ 1 ∧ (l = cl.headD 0 ∨ l = cl.getLastD 0)) := by
  unfold stepI
  split
  · rename_i h; simp [h]
  · rename_i h
    show c ∈ updI (updI S.sent (cl.headD 0) (addI (S.sent (cl.headD 0)) i)) (cl.getLastD 0) (addI (updI S.sent (cl.headD 0) (addI (S.sent (cl.headD 0)) i) (cl.getLastD 0)) i) l ↔ _
    unfold updI
    by_cases h1 : l = cl.getLastD 0
    · rw [if_pos h1, mem_addI]
      by_cases h2 : cl.getLastD 0 = cl.headD 0
      · rw [if_pos h2, mem_addI]
        rw [h1, h2]
        constructor
        · rintro ((z | z) | z)
          · exact .inl z
          · exact .inr ⟨z, h, .inl rfl⟩
          · exact .inr ⟨z, h, .inl rfl⟩
        · rintro (z | ⟨z, _, _⟩)
          · exact .inl (.inl z)
          · exact .inr z
      · rw [if_neg h2]
        rw [h1]
        constructor
        · rintro (z | z)
          · exact .inl z
          · exact .inr ⟨z, h, .inr rfl⟩
        · rintro (z | ⟨z, _, _⟩)
          · exact .inl z
          · exact .inr z
    · rw [if_neg h1]
      by_cases h2 : l = cl.headD 0
      · rw [if_pos h2, mem_addI, ← h2]
        constructor
        · rintro (z | z)
          · exact .inl z
          · exact .inr ⟨z, h, .inl rfl⟩
        · rintro (z | ⟨z, _, _⟩)
          · exact .inl z
          · exact .inr z
      · rw [if_neg h2]
        constructor
        · exact .inl
        · rintro (z | ⟨_, _, z | z⟩)
          · exact z
          · exact absurd z h2
          · exact absurd z h1
theorem stepI_nodup {S : SV} {i : Nat} {cl : List Int} (h : ∀ l, (S.sent l).Nodup) : ∀ l, ((stepI S i cl).sent l).Nodup := by
  intro l
  unfold stepI
  split
  · exact h l
  · show (updI (updI S.sent (cl.headD 0) (addI (S.sent (cl.headD 0)) i)) (cl.getLastD 0) (addI (updI S.sent (cl.headD 0) (addI (S.sent (cl.headD 0)) i) (cl.getLastD 0)) i) l).Nodup
    unfold updI
    split
    · refine nodup_addI ?_ _
      split
      · exact nodup_addI (h _) _
      · exact h _
    · split
      · exact nodup_addI (h _) _
      · exact h _
theorem stepI_que {S : SV} {i : Nat} {cl : List Int} {l : Int} : l ∈ (stepI S i cl).que ↔ l ∈ S.que ∨ cl = [l] := by
  unfold stepI
  split
  · rename_i h
    obtain ⟨a, rfl⟩ := List.length_eq_one_iff.mp h
    show l ∈ S.que ++ [a] ↔ _
    rw [List.mem_append, List.mem_singleton]
    exact or_congr Iff.rfl ⟨fun z => by rw [z], fun z => by injection z with z; exact z.symm⟩
  · rename_i h
    exact ⟨.inl, fun z => z.elim id fun z => absurd (by rw [z]; rfl) h⟩
theorem foldI_sent : ∀ (xs : List (List Int)) (k : Nat) (S : SV) {c l : Int}, c ∈ (foldI k xs S).sent l ↔ c ∈ S.sent l ∨ ∃ (i : Nat) (cl : List Int), xs[i]? = some cl ∧ c = ((k + i : Nat) : Int) ∧ cl.length ≠ 1 ∧ (l = cl.headD 0 ∨ l = cl.getLastD 0)
  | [], k, S, c, l => by simp [foldI]
  | x :: r, k, S, c, l => by
    show c ∈ (foldI (k + 1) r (stepI S k x)).sent l ↔ _
    rw [foldI_sent r (k + 1), stepI_sent]
    constructor
    · rintro ((z | ⟨z1, z2, z3⟩) | ⟨i, cl, h1, h2, h3⟩)
      · exact .inl z
      · exact .inr ⟨0, x, rfl, z1, z2, z3⟩
      · exact .inr ⟨i + 1, cl, h1, by rw [h2]; congr 1; omega, h3⟩
    · rintro (z | ⟨i, cl, h1, h2, h3⟩)
      · exact .inl (.inl z)
      · cases i with
        | zero => simp at h1; subst h1; exact .inl (.inr ⟨h2, h3⟩)
        | succ i => exact .inr ⟨i, cl, by simpa using h1, by rw [h2]; congr 1; omega, h3⟩
theorem foldI_nodup : ∀ (xs : List (List Int)) (k : Nat) (S : SV), (∀ l, (S.sent l).Nodup) → ∀ l, ((foldI k xs S).sent l).Nodup
  | [], k, S, h => h
  | x :: r, k, S, h => foldI_nodup r (k + 1) _ (stepI_nodup h)
theorem foldI_que : ∀ (xs : List (List Int)) (k : Nat) (S : SV) {l : Int}, l ∈ (foldI k xs S).que ↔ l ∈ S.que ∨ [l] ∈ xs
  | [], k, S, l => by simp [foldI]
  | x :: r, k, S, l => by
    show l ∈ (foldI (k + 1) r (stepI S k x)).que ↔ _
    rw [foldI_que r (k + 1), stepI_que, List.mem_cons]
    constructor
    · rintro ((z | z) | z)
      · exact .inl z
      · exact .inr (.inl z.symm)
      · exact .inr (.inr z)
    · rintro (z | z | z)
      · exact .inl (.inl z)
      · exact .inl (.inr z.symm)
      · exact .inr z
theorem foldI_qlen : ∀ (xs : List (List Int)) (k : Nat) (S : SV), (foldI k xs S).que.length ≤ S.que.length + xs.length
  | [], k, S => Nat.le_refl _
  | x :: r, k, S => by
    have h1 := foldI_qlen r (k + 1) (stepI S k x)
    have h2 := (stepI_same (S := S) (i := k) (cl := x)).2.2.2
    show (foldI (k + 1) r (stepI S k x)).que.length ≤ _
    rw [List.length_cons]; omega
theorem foldI_rest : ∀ (xs : List (List Int)) (k : Nat) (S : SV), (foldI k xs S).vs = S.vs ∧ (foldI k xs S).unsat = S.unsat ∧ (foldI k xs S).syms = S.syms
  | [], k, S => ⟨rfl, rfl, rfl⟩
  | x :: r, k, S => by
    obtain ⟨a, b, c⟩ := foldI_rest r (k + 1) (stepI S k x)
    have e : (stepI S k x).vs = S.vs ∧ (stepI S k x).unsat = S.unsat ∧ (stepI S k x).syms = S.syms := by unfold stepI; split <;> exact ⟨rfl, rfl, rfl⟩
    exact ⟨a.trans e.1, b.trans e.2.1, c.trans e.2.2⟩
theorem finS_ini {n : Nat} {CL : List (List Int)} {hp : List Int} {ob dc nn : Addr} {lf : Bool} (hn : n ≤ 4) (hcz : CL.length ≤ 5) (hC : ∀ cl ∈ CL, cl ≠ [] ∧ cl.Nodup ∧ ∀ x ∈ cl, IsLit n x) (hhp : hp.Perm (litsOf n)) :
    Ini CL (finS n CL hp ob dc lf nn) ⟨0, false, [], ob, dc⟩ ∧ (finS n CL hp ob dc lf nn).n = n ∧ (finS n CL hp ob dc lf nn).syms = nn ∧ (finS n CL hp ob dc lf nn).cls = CL ∧ (finS n CL hp ob dc lf nn).hp = hp := by
  have hse := fun (c l : Int) => foldI_sent CL 0 (⟨n, [], false, [], fun _ => [], List.replicate (n + 1) false, CL, [], [], lf, nn, [], 4⟩ : SV) (c := c) (l := l)
  have hno := foldI_nodup CL 0 (⟨n, [], false, [], fun _ => [], List.replicate (n + 1) false, CL, [], [], lf, nn, [], 4⟩ : SV) (fun _ => List.nodup_nil)
  have hqe := fun (l : Int) => foldI_que CL 0 (⟨n, [], false, [], fun _ => [], List.replicate (n + 1) false, CL, [], [], lf, nn, [], 4⟩ : SV) (l := l)
  have hql := foldI_qlen CL 0 (⟨n, [], false, [], fun _ => [], List.replicate (n + 1) false, CL, [], [], lf, nn, [], 4⟩ : SV)
  obtain ⟨hN, hP, hCl⟩ := foldI_same CL 0 (⟨n, [], false, [], fun _ => [], List.replicate (n + 1) false, CL, [], [], lf, nn, [], 4⟩ : SV)
  have hva := foldI_vars CL 0 (⟨n, [], false, [], fun _ => [], List.replicate (n + 1) false, CL, [], [], lf, nn, [], 4⟩ : SV)
  obtain ⟨hvs, hun, hsy⟩ := foldI_rest CL 0 (⟨n, [], false, [], fun _ => [], List.replicate (n + 1) false, CL, [], [], lf, nn, [], 4⟩ : SV)
  have hfin : finS n CL hp ob dc lf nn = (let F := foldI 0 CL ⟨n, [], false, [], fun _ => [], List.replicate (n + 1) false, CL, [], [], lf, nn, [], 4⟩
  { F with hp := hp, sk := litsOf n, lvs := [⟨0, false, [], ob, dc⟩], ph := 11 }) := rfl
  rw [hfin]
  generalize foldI 0 CL (⟨n, [], false, [], fun _ => [], List.replicate (n + 1) false, CL, [], [], lf, nn, [], 4⟩ : SV) = F at *
  dsimp only at *
  replace hse : ∀ c l : Int, c ∈ F.sent l ↔ ∃ (i : Nat) (cl : List Int), CL[i]? = some cl ∧ c = i ∧ cl.length ≠ 1 ∧ (l = cl.headD 0 ∨ l = cl.getLastD 0) := fun c l => by
    rw [hse c l]; simp
  have hcm : ∀ {i : Nat} {cl : List Int}, CL[i]? = some cl → cl ∈ CL := fun h => List.mem_of_getElem? h
  have hci : ∀ {i : Nat} {cl : List Int}, CL[i]? = some cl → i < CL.length := fun {i cl} h => by
    rcases Nat.lt_or_ge i CL.length with z | z
    · exact z
    · rw [List.getElem?_eq_none z] at h; cases h
  have hll : (litsOf n).length ≤ 8 := by rw [litsOf_length]; omega
  refine ⟨⟨⟨by show F.n ≤ 20; omega, by show F.vars.length = F.n + 1; rw [hva, hN]; simp, (by show ∀ l ∈ F.vs, IsLit F.n l; rw [hvs]; intro l h; cases h), by show F.vs.Nodup; rw [hvs]; exact List.nodup_nil, by show F.cls.length ≤ 1000; rw [hCl]; omega, by show ∀ cl ∈ F.cls, ∀ x ∈ cl, IsLit F.n x; rw [hCl, hN]; exact fun cl h => (hC cl h).2.2, fun l hl => ⟨hno l, fun c hc => ?_⟩, by show (1 : Nat) ≤ 100; omega, fun lv hlv => ?_⟩, ⟨fun l c hc => ?_, fun c a b d ha hb hd => ?_, fun i cl hi h2 => ?_⟩, rfl, rfl, rfl, hvs, hCl, fun l hl => ?_, fun l hl => ?_, ?_, fun x => ?_, hun, ⟨by show 10 ≤ 11; omega, by show 11 ≤ 20; omega⟩, fun l hl => ?_, by show (litsOf n).length ≤ 1000; omega, fun x hx => ?_, fun x hx => ?_⟩, hN, hsy, hCl, rfl⟩
  · obtain ⟨i, cl, h1, h2, _⟩ := (hse c l).mp hc
    exact ⟨i, h2, by show i < F.cls.length; rw [hCl]; exact hci h1⟩
  · have : lv = ⟨0, false, [], ob, dc⟩ := by simpa using hlv
    subst this
    exact ⟨List.nodup_nil, fun x h => nomatch h⟩
  · obtain ⟨i, cl, h1, h2, h3, h4⟩ := (hse c l).mp hc
    have hne := (hC cl (hcm h1)).1
    show l ∈ F.cls.getD c.toNat []
    rw [hCl, h2, Int.toNat_natCast, List.getD_eq_getElem?_getD, h1]
    rcases h4 with rfl | rfl
    · exact head_mem hne
    · exact last_mem hne
  · obtain ⟨i, cl, h1, h2, h3, h4⟩ := (hse c a).mp ha
    obtain ⟨i', cl', h1', h2', h3', h4'⟩ := (hse c b).mp hb
    obtain ⟨i'', cl'', h1'', h2'', h3'', h4''⟩ := (hse c d).mp hd
    have e1 : i' = i := by omega
    have e2 : i'' = i := by omega
    subst e1 e2
    rw [h1] at h1' h1''
    cases h1'; cases h1''
    rcases h4 with rfl | rfl <;> rcases h4' with rfl | rfl <;> rcases h4'' with rfl | rfl <;> simp
  · replace hi : CL[i]? = some cl := by rw [← hCl]; exact hi
    have hc := hC cl (hcm hi)
    refine ⟨cl.headD 0, cl.getLastD 0, ?_, (hse _ _).mpr ⟨i, cl, hi, rfl, by omega, .inl rfl⟩, (hse _ _).mpr ⟨i, cl, hi, rfl, by omega, .inr rfl⟩⟩
    match cl, h2, hc with
    | a :: b :: r, _, hc =>
      intro z
      have h3 : (a :: b :: r).getLastD 0 = (b :: r).getLastD 0 := by simp [List.getLastD]
      rw [h3] at z
      have h4 := last_mem (cl := b :: r) (by simp)
      have h5 := List.nodup_cons.mp hc.2.1
      exact h5.1 (by show (a :: b :: r).headD 0 ∈ b :: r; rw [z]; exact h4)
  · have h1 : [l] ∈ CL := by simpa using (hqe l).mp hl
    exact ⟨by show IsLit F.n l; rw [hN]; exact (hC _ h1).2.2 l (by simp), h1⟩
  · exact (hqe l).mpr (.inr hl)
  · show F.que.length ≤ 5
    simp at hql; omega
  · show F.vars.getD x.natAbs false = false
    rw [hva, List.getD_eq_getElem?_getD, List.getElem?_replicate]
    split <;> rfl
  · replace hl : IsLit F.n l := hl
    rw [hN] at hl; exact mem_litsOf.mpr hl
  · show IsLit F.n x
    rw [hN]; exact mem_litsOf.mp (hhp.mem_iff.mp hx)
  · replace hx : IsLit F.n x := hx
    rw [hN] at hx; exact hhp.mem_iff.mpr (mem_litsOf.mpr hx)
end Dp
end
section
open PySem PySem.W PySem.Calls PyProof.Rows
namespace Dp
section
variable {prog : Program} {w : World} {K : Frag} {B : Heap} {A : Around} {E : Value → Shared → Prop} {s s' s₁ s₂ : Shared} {L a l C : Addr} {m m' : Str → Option Value} {adr adr' : Role → Addr} {D D' : Addr → Prop} {S S' : SV} {h h' : Heap} {env : Env}
theorem call_solver {cl0 rg va nn : Addr} {tr ur vr : Tok} {lf : Bool} {kw : List (Str × Value)} {n k0 : Nat} {xs : List (Addr × List Int)} {Rr : Result → Shared → Prop} (G : Bas w K B) (kf : KF K) (o : On B s.heap) (rm : Rm A 6)
    (hkw : (kw = [] ∧ lf = false) ∨ ∃ t, kw = [(Str.ofString "clause_learning", Value.str "simple" t)] ∧ lf = true)
    (hv : ∃ ov, s.heap.get? va = some ov ∧ IntSet w ov []) (hB : B.get? va = none) (hnn : ∃ o, B.get? nn = some o) (hn : n ≤ 20)
    (hr : IsRange s.heap rg 1 ((n : Int) + 1) 1 tr ur vr)
    (hl : s.heap.get? cl0 = some (listO (xs.map fun p => Value.ref p.1).toArray k0)) (hsets : ∀ p ∈ xs, (∃ o, s.heap.get? p.1 = some o ∧ IntSet w o p.2) ∧ p.2.length < 1000 ∧ p.2 ≠ [] ∧ ∀ x ∈ p.2, IsLit n x) (hz : xs.length ≤ 100)
    (hdis : ∀ b, b = cl0 ∨ b = rg ∨ (∃ p ∈ xs, p.1 = b) → b ≠ va)
    (hq : ∀ s' D' adr' CL hp ob dc, F2 (fun (p : Addr × List Int) c => c.Perm p.2) xs CL → hp.Perm (litsOf n) → Rep prog w B D' adr' (finS n CL hp ob dc lf nn) s'.heap → Gr (fun b => b = va) D' s s' → Rr (.ok (.ret (.ref (adr' .slf)))) s') :
    codeAny (model prog w) A (.call (.ref 207) ⟨[.ref cl0, .ref rg, .ref va, .ref nn], kw⟩) Rr s := by
  obtain ⟨pm, hat⟩ := kf.fSI.at_
  obtain ⟨t1, t2, t3, hdef⟩ := kf.dSI
  have X := G.in o
  obtain ⟨hh, g, d, tt, os⟩ := s
  refine make_core (makes_of X kf.S.makes) (looks_findIn X kf.initS) (fun self => bind_fn X self (beq_iff_eq.mp kf.fSI.fn)) (.inl rfl) ?_
  have k : ∀ b o, hh.get? b = some o → ((hh.push emptyDict).push (instObj 207 hh.objs.size)).get? b = some o := fun b o e => Heap.get?_push_of_some _ (Heap.get?_push_of_some _ e)
  have hx : ((hh.push emptyDict).push (instObj 207 hh.objs.size)).get? (hh.objs.size + 1) = some (instObj 207 hh.objs.size) := by
    have := Heap.get?_push_size (hh.push emptyDict) (o := instObj 207 hh.objs.size) rfl
    rwa [Heap.size_push] at this
  have hdx : ((hh.push emptyDict).push (instObj 207 hh.objs.size)).get? hh.objs.size = some (dictOf [] 0) := Heap.get?_push_of_some _ (Heap.get?_push_size _ rfl)
  have hn0 : hh.get? hh.objs.size = none := new_none
  have hn1 : hh.get? (hh.objs.size + 1) = none := by
    cases q : hh.get? (hh.objs.size + 1) with
    | none => rfl
    | some ob => exact absurd (Heap.lt_size q) (Nat.not_lt.mpr (Nat.le_succ _))
  have o2 : On B ((hh.push emptyDict).push (instObj 207 hh.objs.size)) := ⟨fun b ob q => k b ob (o.keep b ob q), by rw [Heap.size_push, Heap.size_push]; have := o.size; exact Nat.le_succ_of_le (Nat.le_succ_of_le this)⟩
  have nx : ∀ {b ob}, hh.get? b = some ob → b ≠ hh.objs.size + 1 ∧ b ≠ hh.objs.size := fun {b ob} q => ⟨fun z => (by rw [z, hn1] at q; cases q), fun z => (by rw [z, hn0] at q; cases q)⟩
  obtain ⟨ov, hv1, hv2⟩ := hv
  have main : ∀ (cl : Str) (t2' : Tok), ((cl = "simple" ∧ lf = true) ∨ (cl = "none" ∧ lf = false)) → BindsTo ⟨(hh.push emptyDict).push (instObj 207 hh.objs.size), g, d, tt, os⟩ (fdOf (meth "__init__") "__init__" "SATSolver.__init__" (.ref 71) pm 77) ⟨.ref (hh.objs.size + 1) :: [.ref cl0, .ref rg, .ref va, .ref nn], kw⟩ (siBinds (hh.objs.size + 1) cl0 rg va nn t1 t2' t3 cl) →
      codeAny (model prog w) (A.under (.builtin "type.__call__" ⟨.ref 207 :: [.ref cl0, .ref rg, .ref va, .ref nn], kw⟩)) (.call (.ref 78) ⟨.ref (hh.objs.size + 1) :: [.ref cl0, .ref rg, .ref va, .ref nn], kw⟩) (InitBack (hh.objs.size + 1) Rr) ⟨(hh.push emptyDict).push (instObj 207 hh.objs.size), g, d, tt, os⟩ := by
    intro cl t2' hcl hb
    refine init_body (s := ⟨(hh.push emptyDict).push (instObj 207 hh.objs.size), g, d, tt, os⟩) (x := hh.objs.size + 1) (dx := hh.objs.size) (lf := lf) (n := n) (xs := xs) G kf o2 rm.tc hb hat hcl hx hdx ⟨ov, k _ _ hv1, hv2⟩ ⟨o.none hn1, o.none hn0, hB⟩ hnn hn (k _ _ hr) (k _ _ hl) (fun p hp => let ⟨⟨ob, y1, y2⟩, y3⟩ := hsets p hp; ⟨⟨ob, k _ _ y1, y2⟩, y3⟩) hz ?_ fun s' D' adr' CL hp ob dc c1 c2 c3 c4 c5 => ⟨rfl, ?_⟩
    · intro b hb
      have hlive : ∃ ob, hh.get? b = some ob := by
        rcases hb with rfl | rfl | ⟨p, hp, rfl⟩
        · exact ⟨_, hl⟩
        · exact ⟨_, hr⟩
        · obtain ⟨⟨ob, y1, _⟩, _⟩ := hsets p hp; exact ⟨ob, y1⟩
      obtain ⟨ob, q⟩ := hlive
      exact ⟨(nx q).1, (nx q).2, hdis b hb⟩
    · rw [← c5]
      have e0 : Eff No ⟨hh, g, d, tt, os⟩ ⟨(hh.push emptyDict).push (instObj 207 hh.objs.size), g, d, tt, os⟩ := ⟨fun b o _ q => k b o q, rfl, rfl⟩
      have bk : ∀ b, D' b → b = va ∨ hh.get? b = none := fun b z => (c4.back b z).elim (fun y => y.elim (fun y => .inr (y ▸ hn1)) fun y => y.elim (fun y => .inr (y ▸ hn0)) .inl) fun y => .inr (e0.none y)
      exact hq s' D' adr' CL hp ob dc c1 c2 c3 ⟨fun b z => c4.up b (.inr (.inr z)), bk, (e0.no (own := fun b => b = va)).trans c4.eff fun b z => z.elim (fun y => .inr (y ▸ hn1)) fun y => y.elim (fun y => .inr (y ▸ hn0)) .inl⟩
  rcases hkw with ⟨rfl, rfl⟩ | ⟨t, rfl, rfl⟩
  · exact main "none" t2 (.inr ⟨rfl, rfl⟩) (BindsTo.of_defaults rfl ((G.in o2) _ _ hdef) rfl rfl rfl)
  · exact main "simple" t (.inl ⟨rfl, rfl⟩) (BindsTo.of_defaults rfl ((G.in o2) _ _ hdef) rfl rfl rfl)
end
end Dp
end
section
open PySem PySem.W PySem.Calls PyProof.Rows
namespace Dp
def kr (rk : Value → Int) (xs : Array Keyed) (i : Nat) : Int := ((xs[i]?).map fun p => rk p.1).getD 0
def Ris (f : Nat → Int) (k : Nat) : Prop := ∀ i, i + 1 < k → f i ≤ f (i + 1)
def Fal (f : Nat → Int) (k : Nat) : Prop := ∀ i, i + 1 < k → f (i + 1) ≤ f i
theorem Ris.le {f : Nat → Int} {k : Nat} (h : Ris f k) : ∀ (d i : Nat), i + d < k → f i ≤ f (i + d)
  | 0, i, _ => Int.le_refl _
  | d + 1, i, hd => Int.le_trans (h.le d i (by omega)) (h (i + d) (by omega))
theorem Ris.le' {f : Nat → Int} {k i j : Nat} (h : Ris f k) (hij : i ≤ j) (hj : j < k) : f i ≤ f j := by
  have := h.le (j - i) i (by omega); rwa [show i + (j - i) = j by omega] at this
theorem Fal.le {f : Nat → Int} {k : Nat} (h : Fal f k) : ∀ (d i : Nat), i + d < k → f (i + d) ≤ f i
  | 0, i, _ => Int.le_refl _
  | d + 1, i, hd => Int.le_trans (h (i + d) (by omega)) (h.le d i (by omega))
theorem Ris.less {f : Nat → Int} {k j : Nat} (h : Ris f k) (hj : j ≤ k) : Ris f j := fun i hi => h i (by omega)
theorem Ris.one (f : Nat → Int) {k : Nat} (h : k ≤ 1) : Ris f k := fun i hi => by omega
theorem Ris.more {f : Nat → Int} {k : Nat} (h : Ris f k) (hk : 1 ≤ k) (e : f (k - 1) ≤ f k) : Ris f (k + 1) := fun i hi => by
  by_cases c : i + 1 < k
  · exact h i c
  · have : i = k - 1 := by omega
    subst this; rwa [show k - 1 + 1 = k by omega]
theorem Fal.more {f : Nat → Int} {k : Nat} (h : Fal f k) (hk : 1 ≤ k) (e : f k ≤ f (k - 1)) : Fal f (k + 1) := fun i hi => by
  by_cases c : i + 1 < k
  · exact h i c
  · have : i = k - 1 := by omega
    subst this; rwa [show k - 1 + 1 = k by omega]
section
variable {rk : Value → Int}
theorem kr_of {xs ys : Array Keyed} {i j : Nat} (h : xs[i]? = ys[j]?) : kr rk xs i = kr rk ys j := by unfold kr; rw [h]
theorem kr_mirror {xs : Array Keyed} {i j : Nat} (hj : j ≤ xs.size) (k : Nat) : kr rk (mirror xs i j ((j - i) / 2)) k = if i ≤ k ∧ k < j then kr rk xs (i + j - 1 - k) else kr rk xs k := by
  have e := getElem?_mirror_all (i := i) hj k
  split <;> rename_i h
  · rw [if_pos h] at e; exact kr_of e
  · rw [if_neg h] at e; exact kr_of e
theorem kr_even {xs : Array Keyed} {i j : Nat} {c : Int} (hj : j ≤ xs.size) (h : ∀ k, i ≤ k → k < j → kr rk xs k = c) : kr rk (mirror xs i j ((j - i) / 2)) = kr rk xs := by
  funext k
  rw [kr_mirror hj]
  split
  · rw [h _ (by omega) (by omega), h k (by omega) (by omega)]
  · rfl
theorem kr_bubble {xs : Array Keyed} {k l : Nat} (hk : k < xs.size) (hl : l ≤ k) (j : Nat) : kr rk (bubble xs k (k - l)) j = if j = l then kr rk xs k else if l < j ∧ j ≤ k then kr rk xs (j - 1) else kr rk xs j := by
  have e := getElem?_bubble hk (k - l) (by omega) j
  rw [show k - (k - l) = l by omega] at e
  by_cases h1 : j = l
  · rw [if_pos h1] at e ⊢; exact kr_of e
  · rw [if_neg h1] at e ⊢
    by_cases h2 : l < j ∧ j ≤ k
    · rw [if_pos h2] at e ⊢; exact kr_of e
    · rw [if_neg h2] at e ⊢; exact kr_of e
end
section
variable {prog : Program} {w : World} {A : Around} {E : Value → Shared → Prop} {s : Shared} {a₀ : Array Keyed} {P : Value → Prop} {rk : Value → Int} {st : SortSt}
def Cmp (prog : Program) (w : World) (A : Around) (s : Shared) (P : Value → Prop) (rk : Value → Int) : Prop := ∀ (x y : Value) (E : Value → Shared → Prop) (Q : Bool → Shared → Prop), P x → P y → Q (decide (rk x < rk y)) s → wpAny (model prog w) A (oneLt' true x y) Q E s
def Keys (P : Value → Prop) (xs : Array Keyed) : Prop := ∀ p ∈ xs.toList, P p.1
theorem sb_at (hB : SBase a₀ st) (h0 : Keys P a₀) {i : Nat} (hi : i < a₀.size) : ∃ x q, (arrOf st)[i]? = some (x, q) ∧ P x ∧ kr rk (arrOf st) i = rk x := by
  have hi' : i < (arrOf st).size := by rw [hB.size]; exact hi
  have e : (arrOf st)[i]? = some (arrOf st)[i] := getElem?_pos _ i hi'
  have hm : (arrOf st)[i] ∈ a₀.toList := (Array.perm_iff_toList_perm.mp hB.perm).mem_iff.mp (by simp)
  exact ⟨_, _, e, h0 _ hm, by unfold kr; rw [e]; rfl⟩
theorem w_lt {i j : Nat} {Q : Option Bool → SortSt → Prop} (hc : Cmp prog w A s P rk) (h0 : Keys P a₀) (hB : SBase a₀ st) (hi : i < a₀.size) (hj : j < a₀.size) (h : Q (some (decide (kr rk (arrOf st) i < kr rk (arrOf st) j))) st) : wpS (model prog w) A E s (ltAt' i j) Q st := by
  obtain ⟨x, p, e1, p1, k1⟩ := sb_at (rk := rk) hB h0 hi
  obtain ⟨y, q, e2, p2, k2⟩ := sb_at (rk := rk) hB h0 hj
  rw [k1, k2] at h
  rw [ltAt'_eq]
  refine wpS_bind (wpS_get ?_)
  show wpS _ _ _ _ (do let x ← elem' (arrOf st) i; let y ← elem' (arrOf st) j; lt' x y) Q st
  rw [elem'_eq, elem'_eq, e1, e2]
  refine wpS_bind (wpS_pure (wpS_bind (wpS_pure ?_)))
  rw [lt'_eq]
  refine wpS_bind (wpS_get ?_)
  rw [hB.kind, keyLt'_oneType]
  exact wpS_bind (wpS_lift (wpAny_attempt (hc x y _ _ p1 p2 ⟨rfl, wpS_pure h⟩)))
theorem w_asc {a n : Nat} {Q : AscSt → SortSt → Prop} (hc : Cmp prog w A s P rk) (h0 : Keys P a₀) (hB : SBase a₀ st) (hn : n ≤ a₀.size) (ha : 1 ≤ a) (han : a ≤ n) (hs : Ris (kr rk (arrOf st)) a)
    (h : ∀ m, a ≤ m → m ≤ n → Ris (kr rk (arrOf st)) m → (m = n ∨ kr rk (arrOf st) m < kr rk (arrOf st) (m - 1)) → Q (none, m) st) : wpS (model prog w) A E s (ascLoop a n) Q st := by
  unfold ascLoop
  refine wpS_forRange (I := fun x c st' => st' = st ∧ c = (none, x) ∧ Ris (kr rk (arrOf st)) x) ?_ ?_ ⟨rfl, rfl, hs⟩
  · rintro x c st' h1 h2 ⟨rfl, rfl, hx⟩
    refine wpS_bind (w_lt hc h0 hB (by omega) (by omega) ?_)
    show wpS _ _ _ _ (if decide (kr rk (arrOf st') x < kr rk (arrOf st') (x - 1)) = true then _ else _) _ _
    by_cases c : kr rk (arrOf st') x < kr rk (arrOf st') (x - 1)
    · rw [if_pos (by simpa using c)]; exact wpS_pure (h x h1 (by omega) hx (.inr c))
    · rw [if_neg (by simpa using c)]; exact wpS_pure ⟨rfl, rfl, hx.more (by omega) (by omega)⟩
  · rintro c st' ⟨rfl, rfl, hx⟩
    rw [show max a n = n by omega] at *
    exact h n han (Nat.le_refl n) hx (.inl rfl)
theorem w_tail {m n : Nat} {Q : Option Nat → SortSt → Prop} (hc : Cmp prog w A s P rk) (h0 : Keys P a₀) (hB : SBase a₀ st) (hn : n ≤ a₀.size) (h1 : 1 ≤ m) (hm : m ≤ n) (hs : Fal (kr rk (arrOf st)) m)
    (h : ∀ k st', SBase a₀ st' → 1 ≤ k → k ≤ n → Ris (kr rk (arrOf st')) k → Q (some k) st') : wpS (model prog w) A E s (tail3 m n) Q st := by
  unfold tail3
  have hsz : m ≤ (arrOf st).size := by rw [hB.size]; omega
  have hB' := hB.setArr (mirror_perm (arrOf st) 0 m ((m - 0) / 2))
  refine wpS_bind (wpS_reverse (wpS_bind (w_asc hc h0 hB' hn h1 hm (fun i hi => ?_) fun k k1 k2 hk _ => wpS_pure (h k _ hB' (by omega) k2 hk))))
  show kr rk (mirror (arrOf st) 0 m ((m - 0) / 2)) i ≤ kr rk (mirror (arrOf st) 0 m ((m - 0) / 2)) (i + 1)
  rw [kr_mirror hsz, kr_mirror hsz, if_pos ⟨by omega, by omega⟩, if_pos ⟨by omega, by omega⟩]
  have := hs (0 + m - 1 - (i + 1)) (by omega)
  rwa [show 0 + m - 1 - (i + 1) + 1 = 0 + m - 1 - i by omega] at this
theorem w_desc {m n : Nat} {Q : DescSt → SortSt → Prop} (hc : Cmp prog w A s P rk) (h0 : Keys P a₀) (hB : SBase a₀ st) (hn : n ≤ a₀.size) (h1 : 1 ≤ m) (hm : m ≤ n) (hs : Fal (kr rk (arrOf st)) m)
    (h : ∀ k q st' c, SBase a₀ st' → m ≤ k → k ≤ n → Fal (kr rk (arrOf st')) k → q + 1 ≤ k → (∀ i, k - (q + 1) ≤ i → i < k → kr rk (arrOf st') i = c) → Q (none, k, q) st') : wpS (model prog w) A E s (descLoop m n) Q st := by
  unfold descLoop
  refine wpS_forRange (I := fun x c st' => ∃ q d, c = (none, x, q) ∧ SBase a₀ st' ∧ Fal (kr rk (arrOf st')) x ∧ q + 1 ≤ x ∧ ∀ i, x - (q + 1) ≤ i → i < x → kr rk (arrOf st') i = d) ?_ ?_ ⟨0, kr rk (arrOf st) (m - 1), rfl, hB, hs, by omega, fun i _ _ => by rw [show i = m - 1 by omega]⟩
  · rintro x c st' x1 x2 ⟨q, d, rfl, hB', hf, hq, he⟩
    have hsz : x ≤ (arrOf st').size := by rw [hB'.size]; omega
    have hd : kr rk (arrOf st') (x - 1) = d := he _ (by omega) (by omega)
    refine wpS_bind (w_lt (i := x) (j := x - 1) hc h0 hB' (by omega) (by omega) ?_)
    show wpS _ _ _ _ (if decide (kr rk (arrOf st') x < kr rk (arrOf st') (x - 1)) = true then _ else _) _ _
    by_cases c : kr rk (arrOf st') x < kr rk (arrOf st') (x - 1)
    · rw [if_pos (by simpa using c)]
      have hf' := hf.more (by omega) (Int.le_of_lt c)
      show wpS _ _ _ _ (if q > 0 then _ else _) _ _
      split
      · refine wpS_bind (wpS_reverse (wpS_pure ⟨0, kr rk (arrOf st') x, rfl, hB'.setArr (mirror_perm _ _ _ _), ?_, by omega, fun i i1 i2 => ?_⟩))
        · show Fal (kr rk (mirror (arrOf st') (x - (q + 1)) x ((x - (x - (q + 1))) / 2))) (x + 1)
          rw [kr_even hsz he]; exact hf'
        · show kr rk (mirror (arrOf st') (x - (q + 1)) x ((x - (x - (q + 1))) / 2)) i = _
          rw [kr_even hsz he, show i = x by omega]
      · exact wpS_pure ⟨0, kr rk (arrOf st') x, rfl, hB', hf', by omega, fun i i1 i2 => by rw [show i = x by omega]⟩
    · rw [if_neg (by simpa using c)]
      refine wpS_bind (w_lt (i := x - 1) (j := x) hc h0 hB' (by omega) (by omega) ?_)
      show wpS _ _ _ _ (if decide (kr rk (arrOf st') (x - 1) < kr rk (arrOf st') x) = true then _ else _) _ _
      by_cases c2 : kr rk (arrOf st') (x - 1) < kr rk (arrOf st') x
      · rw [if_pos (by simpa using c2)]; exact wpS_pure (h x q st' d hB' x1 (by omega) hf hq he)
      · rw [if_neg (by simpa using c2)]
        have ex : kr rk (arrOf st') x = d := by omega
        refine wpS_pure ⟨q + 1, d, rfl, hB', hf.more (by omega) (by omega), by omega, fun i i1 i2 => ?_⟩
        by_cases z : i = x
        · rw [z]; exact ex
        · exact he i (by omega) (by omega)
  · rintro c st' ⟨q, d, rfl, hB', hf, hq, he⟩
    rw [show max m n = n by omega] at *
    exact h n q st' d hB' hm (Nat.le_refl n) hf hq he
theorem w_fall {m n : Nat} {Q : Option Nat → SortSt → Prop} (hc : Cmp prog w A s P rk) (h0 : Keys P a₀) (hB : SBase a₀ st) (hn : n ≤ a₀.size) (hm : m + 1 ≤ n) (hs : Fal (kr rk (arrOf st)) (m + 1))
    (h : ∀ k st', SBase a₀ st' → 1 ≤ k → k ≤ n → Ris (kr rk (arrOf st')) k → Q (some k) st') : wpS (model prog w) A E s (descPart m n) Q st := by
  unfold descPart
  refine wpS_bind (wpS_lift (wpAny_rule ⟨rfl, wpS_bind (w_desc hc h0 hB hn (by omega) hm hs fun k q st' c hB' k1 k2 hf hq he => ?_)⟩))
  have hsz : k ≤ (arrOf st').size := by rw [hB'.size]; omega
  show wpS _ _ _ _ (if q > 0 then _ else _) _ _
  split
  · refine wpS_bind (wpS_reverse (w_tail (m := k) hc h0 (hB'.setArr (mirror_perm _ _ _ _)) hn (by omega) k2 ?_ h))
    show Fal (kr rk (mirror (arrOf st') (k - (q + 1)) k ((k - (k - (q + 1))) / 2))) k
    rw [kr_even hsz he]; exact hf
  · exact w_tail (m := k) hc h0 hB' hn (by omega) k2 hf h
theorem w_run {n : Nat} {Q : Option Nat → SortSt → Prop} (hc : Cmp prog w A s P rk) (h0 : Keys P a₀) (hB : SBase a₀ st) (hn : n ≤ a₀.size) (h1 : 1 ≤ n)
    (h : ∀ k st', SBase a₀ st' → 1 ≤ k → k ≤ n → Ris (kr rk (arrOf st')) k → Q (some k) st') : wpS (model prog w) A E s (countRun' 0 n) Q st := by
  rw [countRun0_eq]
  refine wpS_bind (w_asc hc h0 hB hn (Nat.le_refl 1) h1 (Ris.one _ (Nat.le_refl 1)) fun m m1 m2 hr hor => ?_)
  show wpS _ _ _ _ (if (m == n) = true then _ else _) _ _
  by_cases c : m = n
  · rw [if_pos (by simpa using c)]; exact wpS_pure (h m st hB m1 m2 hr)
  · rw [if_neg (by simpa using c)]
    have hlt := hor.resolve_left c
    have hsz : m ≤ (arrOf st).size := by rw [hB.size]; omega
    show wpS _ _ _ _ (if m > 1 then _ else _) _ _
    split
    · refine wpS_bind (w_lt hc h0 hB (by omega) (by omega) ?_)
      show wpS _ _ _ _ (if decide (kr rk (arrOf st) 0 < kr rk (arrOf st) (m - 1)) = true then _ else _) _ _
      by_cases c2 : kr rk (arrOf st) 0 < kr rk (arrOf st) (m - 1)
      · rw [if_pos (by simpa using c2)]; exact wpS_pure (h m st hB m1 m2 hr)
      · rw [if_neg (by simpa using c2)]
        have even : ∀ k, 0 ≤ k → k < m → kr rk (arrOf st) k = kr rk (arrOf st) (m - 1) := fun k _ hk => by
          have a1 := hr.le' (Nat.zero_le k) hk
          have a2 := hr.le' (i := k) (j := m - 1) (by omega) (by omega)
          omega
        refine wpS_bind (wpS_reverse (w_fall hc h0 (hB.setArr (mirror_perm _ _ _ _)) hn (by omega) ?_ h))
        show Fal (kr rk (mirror (arrOf st) 0 m ((m - 0) / 2))) (m + 1)
        rw [kr_even hsz even]
        intro i hi
        by_cases z : i + 1 < m
        · rw [even i (by omega) (by omega), even (i + 1) (by omega) z]; exact Int.le_refl _
        · rw [even i (by omega) (by omega), show i + 1 = m by omega]; exact Int.le_of_lt hlt
    · have : m = 1 := by omega
      subst this
      refine w_fall hc h0 hB hn (by omega) (fun i hi => ?_) h
      rw [show i = 0 by omega]; exact Int.le_of_lt hlt
theorem w_ins {n ok : Nat} {Q : Bool → SortSt → Prop} (hc : Cmp prog w A s P rk) (h0 : Keys P a₀) (hB : SBase a₀ st) (hn : n ≤ a₀.size) (hok : ok ≤ n) (hs : Ris (kr rk (arrOf st)) ok)
    (h : ∀ st', SBase a₀ st' → Ris (kr rk (arrOf st')) n → Q true st') : wpS (model prog w) A E s (binarySort' 0 n ok) Q st := by
  rw [binarySort'_eq]
  simp only [Nat.zero_add]
  refine wpS_bind (wpS_mono (wpS_forRange (I := fun k c st' => c = (none, ()) ∧ SBase a₀ st' ∧ Ris (kr rk (arrOf st')) (min k n)) (Q := fun c st' => c = (none, ()) ∧ SBase a₀ st' ∧ Ris (kr rk (arrOf st')) n) ?_ ?_ ⟨rfl, hB, ?_⟩) ?_)
  · rintro k c st' k1 k2 ⟨rfl, hB', hr⟩
    rw [show min k n = k by omega] at hr
    refine wpS_bind (wpS_mono (wpS_forRange (I := fun x c st'' => st'' = st' ∧ ∃ l r, c = (none, l, r) ∧ l ≤ r ∧ r ≤ k ∧ r - l ≤ k - x ∧ (∀ i, i < l → kr rk (arrOf st') i ≤ kr rk (arrOf st') k) ∧ ∀ i, r ≤ i → i < k → kr rk (arrOf st') k < kr rk (arrOf st') i)
      (Q := fun c st'' => st'' = st' ∧ ∃ l r, c = (none, l, r) ∧ l ≤ k ∧ (∀ i, i < l → kr rk (arrOf st') i ≤ kr rk (arrOf st') k) ∧ ∀ i, l ≤ i → i < k → kr rk (arrOf st') k < kr rk (arrOf st') i) ?_ ?_ ⟨rfl, 0, k, rfl, by omega, Nat.le_refl k, by omega, fun i hi => by omega, fun i a b => by omega⟩) ?_)
    · rintro x c st'' x1 x2 ⟨rfl, l, r, rfl, b1, b2, b3, lo, hi⟩
      show wpS _ _ _ _ (if l ≥ r then _ else _) _ _
      by_cases c : l ≥ r
      · rw [if_pos c]
        have : l = r := by omega
        subst this
        exact wpS_pure ⟨rfl, l, l, rfl, b2, lo, hi⟩
      · rw [if_neg c]
        refine wpS_bind (w_lt (i := k) (j := (l + r) / 2) hc h0 hB' (by omega) (by omega) ?_)
        show wpS _ _ _ _ (if decide (kr rk (arrOf st'') k < kr rk (arrOf st'') ((l + r) / 2)) = true then _ else _) _ _
        by_cases c2 : kr rk (arrOf st'') k < kr rk (arrOf st'') ((l + r) / 2)
        · rw [if_pos (by simpa using c2)]
          exact wpS_pure ⟨rfl, l, (l + r) / 2, rfl, by omega, by omega, by omega, lo, fun i a b => Int.lt_of_lt_of_le c2 (hr.le' a b)⟩
        · rw [if_neg (by simpa using c2)]
          exact wpS_pure ⟨rfl, (l + r) / 2 + 1, r, rfl, by omega, by omega, by omega, fun i a => Int.le_trans (hr.le' (j := (l + r) / 2) (by omega) (by omega)) (Int.not_lt.mp c2), hi⟩
    · rintro c st'' ⟨rfl, l, r, rfl, b1, b2, b3, lo, hi⟩
      have : l = r := by omega
      subst this
      exact ⟨rfl, l, l, rfl, b2, lo, hi⟩
    · rintro c st'' ⟨rfl, l, r, rfl, b1, lo, hi⟩
      show wpS _ _ _ _ (do moveDown' k l; pure (ForInStep.yield (none, ()))) _ _
      rw [moveDown'_eq]
      refine wpS_bind (wpS_modify (wpS_pure ⟨rfl, hB'.setArr (bubble_perm _ _ _), ?_⟩))
      rw [show min (k + 1) n = k + 1 by omega]
      have hks : k < (arrOf st'').size := by rw [hB'.size]; omega
      intro i hi'
      show kr rk (bubble (arrOf st'') k (k - l)) i ≤ kr rk (bubble (arrOf st'') k (k - l)) (i + 1)
      rw [kr_bubble hks b1, kr_bubble hks b1]
      by_cases z1 : i = l
      · rw [if_pos z1, if_neg (by omega), if_pos ⟨by omega, by omega⟩, show i + 1 - 1 = i by omega]
        exact Int.le_of_lt (hi i (by omega) (by omega))
      · rw [if_neg z1]
        by_cases z2 : i + 1 = l
        · rw [if_pos z2, if_neg (by omega)]; exact lo i (by omega)
        · rw [if_neg z2]
          by_cases z3 : l < i
          · rw [if_pos ⟨z3, by omega⟩, if_pos ⟨by omega, by omega⟩]
            have := hr (i - 1) (by omega)
            rwa [show i - 1 + 1 = i + 1 - 1 by omega] at this
          · rw [if_neg (by omega), if_neg (by omega)]; exact hr i (by omega)
  · rintro c st' ⟨rfl, hB', hr⟩
    rw [show min (max (max ok 1) n) n = n by omega] at hr
    exact ⟨rfl, hB', hr⟩
  · by_cases z : ok = 0
    · exact Ris.one _ (by omega)
    · exact hs.less (by omega)
  · rintro c st' ⟨rfl, hB', hr⟩
    exact wpS_pure (h st' hB' hr)
end
end Dp
end
section
open PySem PySem.W PySem.Calls PyProof.Rows
namespace Dp
def bitsLt : List Bool → List Bool → Bool
  | a :: r, b :: t => if a = b then bitsLt r t else decide (b2i a < b2i b)
  | _, _ => false
def bval : List Bool → Int
  | [] => 0
  | a :: r => b2i a * 2 ^ r.length + bval r
theorem bval_lt : ∀ p : List Bool, 0 ≤ bval p ∧ bval p < 2 ^ p.length
  | [] => ⟨Int.le_refl _, by decide⟩
  | a :: r => by
    have h := bval_lt r
    have e : (2 : Int) ^ (r.length + 1) = 2 ^ r.length + 2 ^ r.length := by rw [Int.pow_succ]; omega
    show 0 ≤ b2i a * 2 ^ r.length + bval r ∧ b2i a * 2 ^ r.length + bval r < 2 ^ (r.length + 1)
    cases a <;> simp [b2i] <;> omega
theorem bval_inj : ∀ {p q : List Bool}, p.length = q.length → bval p = bval q → p = q
  | [], [], _, _ => rfl
  | a :: r, b :: t, hl, h => by
    have hl' : r.length = t.length := by simpa using hl
    have h1 := bval_lt r
    have h2 := bval_lt t
    have h3 : b2i a * 2 ^ r.length + bval r = b2i b * 2 ^ t.length + bval t := h
    rw [← hl'] at h2 h3
    have hab : a = b := by cases a <;> cases b <;> simp [b2i] at h3 ⊢ <;> omega
    subst hab
    rw [bval_inj hl' (by omega)]
theorem bitsLt_val : ∀ {p q : List Bool}, p.length = q.length → bitsLt p q = decide (bval p < bval q)
  | [], [], _ => rfl
  | a :: r, b :: t, hl => by
    have hl' : r.length = t.length := by simpa using hl
    have h1 := bval_lt r
    have h2 := bval_lt t
    have ih := bitsLt_val hl'
    show (if a = b then bitsLt r t else decide (b2i a < b2i b)) = decide (b2i a * 2 ^ r.length + bval r < b2i b * 2 ^ t.length + bval t)
    rw [← hl'] at h2 ⊢
    cases a <;> cases b <;> simp [b2i, ih] <;> omega
section
variable {prog : Program} {w : World} {A : Around} {E : Value → Shared → Prop} {s : Shared} {l b : Addr}
theorem eq_gives_bools (p q : Bool) : Gives (Builtin.«int.__eq__» ⟨[.bool p, .bool q], []⟩) (.val (Value.bool (p == q))) := by
  cases p <;> cases q <;> (intro prog w A R s h; obtain ⟨hp, g, d, tk, os⟩ := s; wp_walk; exact h)
theorem eqB_bool {p q : Bool} {Q : Bool → Shared → Prop} (h : Q (p == q) s) : wpAny (model prog w) A (eqBool (.bool p) (.bool q)) Q E s := by
  unfold eqBool
  refine wpAny_holding ?_
  refine wpAny_ite_split (fun hab => ?_) (fun hab => ?_)
  · have e : p = q := by have := eq_of_beq hab; injection this
    subst e
    exact wpAny_bind (wpAny_rule (wpAny_pure (by simpa using h)))
  · refine wpAny_bind (richCompare_gives (op := .Eq) (typeIs_bool' s p) (typeIs_bool' s q) F.slot_bool_eq F.entry_int_eq (F.args_int_eq_2 _ _) (eq_gives_bools p q) (by intro z; cases z) (show _ from wpAny_truthy_bool h) rfl)
theorem lt_loop (p q : List Bool) (hl : p.length = q.length) (n n2 : Nat) (k : Nat) : ∀ i : Nat, p.length - i = k → Meets (Builtin.«list.__eq__.loop» ⟨[.ref l, .ref b, rawInt i, rawInt 0], []⟩)
    (fun _ R s => s.heap.get? l = some (listO (p.map Value.bool).toArray n) ∧ s.heap.get? b = some (listO (q.map Value.bool).toArray n2) ∧ R (.ok (.ret (.bool (bitsLt (p.drop i) (q.drop i))))) s) := by
  induction k with
  | zero =>
    intro i hk prog w A R s h
    obtain ⟨hp, g, d, tk, os⟩ := s
    obtain ⟨h1, h2, h⟩ := h
    wp_walk using AutoSeq1.wpAny_loadPart' h1, AutoSeq1.wpAny_loadPart' h2
    have e1 : (p.map Value.bool).toArray[((i : Nat) : Int).toNat]? = none := by simp; omega
    have e2 : (q.map Value.bool).toArray[((i : Nat) : Int).toNat]? = none := by simp; omega
    have e3 : p.drop i = [] := by simp; omega
    rw [e3] at h
    rw [e1, e2]
    wp_walk using AutoSeq1.wpAny_loadPart' h1, AutoSeq1.wpAny_loadPart' h2
    show R (.ok (.ret (.bool (decide ((p.map Value.bool).toArray.size < (q.map Value.bool).toArray.size))))) _
    rw [decide_eq_false (by simp; omega)]
    exact h
  | succ k ih =>
    intro i hk prog w A R s h
    obtain ⟨hp, g, d, tk, os⟩ := s
    obtain ⟨h1, h2, h⟩ := h
    wp_walk using AutoSeq1.wpAny_loadPart' h1, AutoSeq1.wpAny_loadPart' h2
    have i1 : i < p.length := by omega
    have i2 : i < q.length := by omega
    have e1 : (p.map Value.bool).toArray[((i : Nat) : Int).toNat]? = some (.bool p[i]) := by simp [i1]
    have e2 : (q.map Value.bool).toArray[((i : Nat) : Int).toNat]? = some (.bool q[i]) := by simp [i2]
    have hc : ((i : Int) + 1) = ((i + 1 : Nat) : Int) := by push_cast; rfl
    rw [List.drop_eq_getElem_cons i1, List.drop_eq_getElem_cons i2] at h
    rw [e1, e2]
    refine wpAny_bind (eqB_bool ?_)
    by_cases c : p[i] = q[i]
    · rw [show (p[i] == q[i]) = true by simp [c]]
      have h' : R (.ok (.ret (.bool (bitsLt (p.drop (i + 1)) (q.drop (i + 1)))))) ⟨hp, g, d, tk, os⟩ := by
        have := h; unfold bitsLt at this; rwa [if_pos c] at this
      wp_walk
      rw [hc]
      exact ⟨plainId_quiet MeetsSeq3.plain_eq_loop _, codeAny_builtin MeetsSeq3.entry_eq_loop (by
        rw [Around.under_plainId MeetsSeq3.plain_eq_loop _]
        exact ih (i + 1) (by omega) prog w A R _ ⟨h1, h2, h'⟩)⟩
    · rw [show (p[i] == q[i]) = false by simp [c]]
      have h' : R (.ok (.ret (.bool (decide (b2i p[i] < b2i q[i]))))) ⟨hp, g, d, tk, os⟩ := by
        have := h; unfold bitsLt at this; rwa [if_neg c] at this
      wp_walk using AutoSeq1.wpAny_loadPart' h1, AutoSeq1.wpAny_loadPart' h2
      rw [e1, e2]
      dsimp only
      refine wpAny_bind (richCompare_gives (op := .Lt) (typeIs_bool' _ _) (typeIs_bool' _ _) F.slot_bool_lt F.entry_int_lt (F.args_int_lt_2 _ _) (gives_int_lt_bools _ _) (by intro z; cases z) ?_ rfl)
      exact wpAny_pure h'
theorem list_lt (p q : List Bool) (hl : p.length = q.length) (n n2 : Nat) : Meets (Builtin.«list.__lt__» ⟨[.ref l, .ref b], []⟩)
    (fun _ R s => s.heap.get? l = some (listO (p.map Value.bool).toArray n) ∧ s.heap.get? b = some (listO (q.map Value.bool).toArray n2) ∧ R (.ok (.ret (.bool (bitsLt p q)))) s) := by
  intro prog w A R s h
  obtain ⟨hp, g, d, tk, os⟩ := s
  obtain ⟨h1, h2, h⟩ := h
  wp_walk using AutoSeq1.wpAny_loadPart' h1, AutoSeq1.wpAny_loadPart' h2
  have hs : isSubtype (listO (q.map Value.bool).toArray n2).cls (.type "list") = pure true := AutoSeq1.sub_list_list
  rw [hs]
  wp_walk
  exact ⟨plainId_quiet MeetsSeq3.plain_eq_loop _, codeAny_builtin MeetsSeq3.entry_eq_loop (by
    rw [Around.under_plainId MeetsSeq3.plain_eq_loop _]
    exact lt_loop p q hl n n2 _ 0 rfl prog w A R _ ⟨h1, h2, h⟩)⟩
theorem oneLt_lists {p q : List Bool} {n n2 : Nat} {Q : Bool → Shared → Prop} (hl : p.length = q.length) (h1 : s.heap.get? l = some (listO (p.map Value.bool).toArray n)) (h2 : s.heap.get? b = some (listO (q.map Value.bool).toArray n2)) (hu : A.units < cLine)
    (h : Q (decide (bval p < bval q)) s) : wpAny (model prog w) A (oneLt' true (.ref l) (.ref b)) Q E s := by
  rw [oneLt'_eq]
  simp only [if_true]
  refine wpAny_bind (wpAny_cRoomFor hu ?_)
  refine wpAny_bind (wpAny_callSpecialIfBound?_slot (⟨_, h1, rfl⟩ : s.TypeIs (.ref l) "list") F.slot_list_lt (call_meets F.slot_list_lt ⟨_, h1, rfl⟩ F.entry_list_lt (F.args_list_lt_2 _ _) (list_lt p q hl n n2) ⟨h1, h2, ?_⟩))
  rw [bitsLt_val hl]
  exact wpAny_truthy_bool h
end
end Dp
end
section
open PySem PySem.W PySem.Calls PyProof.Rows
namespace Dp
def boolsOf (o : Obj) : List Bool := match o.data with | .seq xs _ => xs.toList.map fun v => (match v with | .bool b => b | _ => false) | _ => []
def rkOf (h : Heap) : Value → Int
  | .ref a => match h.get? a with | some o => bval (boolsOf o) | none => 0
  | _ => 0
def RowV (h : Heap) (n : Nat) (v : Value) : Prop := ∃ (a : Addr) (ρ : List Bool) (k : Nat), v = .ref a ∧ h.get? a = some (listO (ρ.map Value.bool).toArray k) ∧ ρ.length = n
theorem boolsOf_listO (ρ : List Bool) (k : Nat) : boolsOf (listO (ρ.map Value.bool).toArray k) = ρ := by
  show ((ρ.map Value.bool).toArray.toList.map fun v => (match v with | .bool b => b | _ => false)) = ρ
  rw [List.toList_toArray, List.map_map]
  exact List.map_id ρ
theorem rkOf_row {h : Heap} {a : Addr} {ρ : List Bool} {k : Nat} (e : h.get? a = some (listO (ρ.map Value.bool).toArray k)) : rkOf h (.ref a) = bval ρ := by
  unfold rkOf; dsimp only; rw [e]; dsimp only; rw [boolsOf_listO]
section
variable {prog : Program} {w : World} {A : Around} {E : Value → Shared → Prop} {s s' : Shared} {h : Heap} {n : Nat}
theorem cmp_rows (hx : ∀ b o, h.get? b = some o → s.heap.get? b = some o) (hu : A.units < cLine) : Cmp prog w A s (RowV h n) (rkOf h) := by
  rintro x y E Q ⟨a, ρ, k, rfl, e1, e2⟩ ⟨b, σ, k', rfl, e3, e4⟩ hq
  rw [rkOf_row e1, rkOf_row e3] at hq
  exact oneLt_lists (e2.trans e4.symm) (hx _ _ e1) (hx _ _ e3) hu hq
theorem mapM_all {β : Type} {f : Value → Sem β} {c : β} : ∀ {vs : List Value} {Q : List β → Shared → Prop}, (∀ v ∈ vs, ∀ Q : β → Shared → Prop, Q c s → wpAny (model prog w) A (f v) Q E s) → Q (vs.map fun _ => c) s → wpAny (model prog w) A (vs.mapM f) Q E s
  | [], Q, _, hq => by rw [List.mapM_nil]; exact wpAny_pure hq
  | v :: r, Q, hf, hq => by
    rw [List.mapM_cons]
    exact wpAny_bind (hf v (by simp) _ (wpAny_bind (mapM_all (fun u hu => hf u (by simp [hu])) (wpAny_pure hq))))
theorem keyKind_lists {v₁ v₂ : Value} {vs : List Value} {Q : SortKind → Shared → Prop} (hT : ∀ v ∈ v₁ :: v₂ :: vs, s.TypeIs v "list") (hq : Q oneType' s) : wpAny (model prog w) A (keyKind' (v₁ :: v₂ :: vs).toArray) Q E s := by
  rw [keyKind'_eq, List.mapM_toArray]
  refine wpAny_bind (wpAny_map (mapM_all (c := (none : Option Value)) (fun v hv Q hq => ?_) ?_))
  · show wpAny _ _ (typeOf v >>= fun t => if (t != Value.type "tuple") = true then pure none else _) _ _ _
    refine wpAny_bind (wpAny_typeOf (hT v hv) ?_)
    rw [if_pos (by decide)]
    exact wpAny_pure hq
  · rw [if_neg (by simp), if_neg (by simp), oneTypeOnly'_eq, List.mapM_toArray]
    refine wpAny_bind (wpAny_bind (wpAny_map (mapM_all (c := Value.type "list") (fun v hv Q hq => wpAny_typeOf (hT v hv) hq) ?_)))
    have hall : ((List.map (fun _ => Value.type "list") (v₁ :: v₂ :: vs)).toArray.all fun x => x == Value.type "list") = true := by
      rw [List.all_toArray, List.all_map, List.all_eq_true]
      intro x _; rfl
    have h0 : (List.map (fun _ => Value.type "list") (v₁ :: v₂ :: vs)).toArray[0]? = some (Value.type "list") := by simp
    rw [h0]
    dsimp only
    rw [hall]
    exact wpAny_pure (wpAny_pure hq)
end
end Dp
end
section
open PySem PySem.W PySem.Calls PyProof.Rows
namespace Dp
section
variable {rk : Value → Int}
theorem sorted_of {vs : List Value} {xs : Array Keyed} (hp : xs.Perm (pairsOf vs)) (hs : Ris (kr rk xs) vs.length) : (xs.map (·.2)).toList.Perm vs ∧ (xs.map (·.2)).toList.Pairwise (fun x y => rk x ≤ rk y) := by
  have hl : xs.toList.Perm (vs.zip vs) := by rw [← pairsOf_toList]; exact Array.perm_iff_toList_perm.mp hp
  have hz : (xs.map (·.2)).toList = xs.toList.map (·.2) := Array.toList_map
  have hsz : xs.size = vs.length := by rw [hp.size_eq, pairsOf_size]
  refine ⟨?_, ?_⟩
  · rw [hz]
    have h1 := hl.map (fun p : Keyed => p.2)
    have h2 : (vs.zip vs).map (fun p : Keyed => p.2) = vs := List.map_snd_zip (Nat.le_refl _)
    rwa [h2] at h1
  · rw [hz, List.pairwise_iff_getElem]
    intro i j hi hj hij
    have hi' : i < xs.size := by simpa using hi
    have hj' : j < xs.size := by simpa using hj
    have key : ∀ (k : Nat) (hk : k < xs.size), kr rk xs k = rk ((xs.toList.map (·.2))[k]'(by simpa using hk)) := fun k hk => by
      have e : xs[k]? = some xs[k] := getElem?_pos _ k hk
      unfold kr; rw [e]
      have hm : xs[k] ∈ vs.zip vs := hl.mem_iff.mp (by simp)
      have := (mem_zip_self hm).1
      simp only [Option.map_some, Option.getD_some, List.getElem_map]
      rw [this]; rfl
    rw [← key i hi', ← key j hj']
    exact hs.le' (Nat.le_of_lt hij) (by omega)
end
section
variable {prog : Program} {w : World} {A : Around} {E : Value → Shared → Prop} {s s' : Shared} {h : Heap} {nn : Nat}
theorem w_runs {a₀ : Array Keyed} {P : Value → Prop} {rk : Value → Int} {st : SortSt} {Q : Unit → SortSt → Prop} (hc : Cmp prog w A s P rk) (h0 : Keys P a₀) (hB : SBase a₀ st) (h2 : 2 ≤ a₀.size) (h64 : a₀.size < 64)
    (hq : ∀ st', (arrOf st').Perm a₀ → failedOf st' = none → Ris (kr rk (arrOf st')) a₀.size → Q () st') : wpS (model prog w) A E s sortRuns' Q st := by
  rw [sortRuns'_eq]
  refine wpS_bind (wpS_get ?_)
  dsimp only
  have hmr : minRun' a₀.size a₀.size 0 = a₀.size := by
    obtain ⟨f, hf⟩ : ∃ f, a₀.size = f + 1 := ⟨a₀.size - 1, by omega⟩
    have : minRun' (f + 1) a₀.size 0 = a₀.size := by rw [minRun'_succ, if_pos h64]; rfl
    rwa [← hf] at this
  rw [hB.size, hmr]
  refine wpS_bind (wpS_mono (wpS_forRange
    (I := fun x c st' => (x = 0 ∧ c = (none, 0) ∧ SBase a₀ st') ∨ (0 < x ∧ c = (none, a₀.size) ∧ (arrOf st').Perm a₀ ∧ failedOf st' = none ∧ (pendingOf st').size = 1 ∧ Ris (kr rk (arrOf st')) a₀.size))
    (Q := fun c st' => c = (none, a₀.size) ∧ (arrOf st').Perm a₀ ∧ failedOf st' = none ∧ (pendingOf st').size = 1 ∧ Ris (kr rk (arrOf st')) a₀.size) ?_ ?_ (.inl ⟨rfl, rfl, hB⟩)) ?_)
  · rintro x c st' - hx (⟨rfl, rfl, hB'⟩ | ⟨hx0, rfl, p1, p2, p3, p4⟩)
    · dsimp only
      rw [if_neg (by omega), Nat.sub_zero]
      refine wpS_bind (w_run hc h0 hB' (Nat.le_refl _) (by omega) fun k st2 hB2 k1 k2 hr => ?_)
      dsimp only
      have fin : ∀ st3, SBase a₀ st3 → Ris (kr rk (arrOf st3)) a₀.size → (arrOf (setPending st3 ((pendingOf st3).push (0, a₀.size, 0)))).Perm a₀ ∧ failedOf (setPending st3 ((pendingOf st3).push (0, a₀.size, 0))) = none ∧ (pendingOf (setPending st3 ((pendingOf st3).push (0, a₀.size, 0)))).size = 1 ∧ Ris (kr rk (arrOf (setPending st3 ((pendingOf st3).push (0, a₀.size, 0))))) a₀.size := fun st3 hB3 hr3 =>
        ⟨hB3.perm, hB3.failed, by show ((pendingOf st3).push (0, a₀.size, 0)).size = 1; rw [hB3.pend]; rfl, hr3⟩
      have nopend : ∀ st3, SBase a₀ st3 → (pendingOf st3).back? = none := fun st3 hB3 => by rw [hB3.pend]; rfl
      by_cases hlt : k < a₀.size
      · rw [if_pos hlt]
        refine wpS_bind (wpS_lift (wpAny_rule ⟨rfl, ?_⟩))
        rw [Nat.min_self]
        refine wpS_bind (w_ins hc h0 hB2 (Nat.le_refl _) k2 hr fun st3 hB3 hr3 => ?_)
        simp only [Bool.not_true, Bool.false_eq_true, if_false]
        refine wpS_bind (wpS_get ?_)
        rw [nopend st3 hB3]
        exact wpS_bind (wpS_modify (wpS_pure (.inr ⟨by omega, by rw [Nat.zero_add], fin st3 hB3 hr3⟩)))
      · rw [if_neg hlt]
        obtain rfl : k = a₀.size := by omega
        refine wpS_bind (wpS_get ?_)
        rw [nopend st2 hB2]
        exact wpS_bind (wpS_modify (wpS_pure (.inr ⟨by omega, by rw [Nat.zero_add], fin st2 hB2 hr⟩)))
    · dsimp only
      rw [if_pos (Nat.le_refl _)]
      exact wpS_pure ⟨rfl, p1, p2, p3, p4⟩
  · rintro c st' (⟨hx, _⟩ | ⟨_, h⟩)
    · omega
    · exact h
  · rintro c st' ⟨rfl, p1, p2, p3, p4⟩
    dsimp only
    refine wpS_bind (wpS_mono (wpS_forRange (I := fun _ c st'' => st'' = st' ∧ c = (none, ())) (Q := fun c st'' => st'' = st' ∧ c = (none, ())) ?_ (fun _ _ hh => hh) ⟨rfl, rfl⟩) ?_)
    · rintro x c st'' - - ⟨rfl, rfl⟩
      refine wpS_bind (wpS_get ?_)
      rw [if_pos (by omega)]
      exact wpS_pure ⟨rfl, rfl⟩
    · rintro c st'' ⟨rfl, rfl⟩
      exact wpS_pure (hq _ p1 p2 p4)
end
end Dp
end
section
open PySem PySem.W PySem.Calls PyProof.Rows
namespace Dp
section
variable {prog : Program} {w : World} {A : Around} {E : Value → Shared → Prop} {s s' : Shared} {h : Heap} {nn : Nat}
theorem sort_rows {a : Addr} {vs : List Value} {n : Nat} {P : PySem.Fin → Shared → Prop} (ho : s.heap.get? a = some (seqObj "list" vs.toArray n)) (hx : ∀ b o, h.get? b = some o → b ≠ a ∧ s.heap.get? b = some o) (hv : ∀ v ∈ vs, RowV h nn v) (h64 : vs.length < 64) (hu : A.units < cLine)
    (hq : ∀ out : Array Value, out.toList.Perm vs → out.toList.Pairwise (fun x y => rkOf h x ≤ rkOf h y) → P (.done (.ret .none)) { s with heap := sortedHeap s.heap a vs out }) :
    wpAny (model prog w) A (Builtin.«list.sort» ⟨[.ref a], []⟩) P E s := by
  have ha : a < s.heap.objs.size := Heap.lt_size ho
  obtain ⟨e1, g1⟩ : ∃ e1, (s.heap.update a (Obj.mapSeq fun _ => #[])).get? a = some (seqObj "list" #[] e1) := ⟨_, get?_update_seq ho (fun _ => #[])⟩
  generalize hH : ((s.heap.update a (Obj.mapSeq fun _ => #[])).push (seqObj "tuple" vs.toArray 0)).push (seqObj "list" #[] 0) = H
  have gne : ∀ b o, b < s.heap.objs.size → b ≠ a → s.heap.get? b = some o → H.get? b = some o := fun b o hb hne q => by
    rw [← hH, Heap.get?_push_ne _ _ _ (by rw [size_push', Heap.size_update]; exact Nat.ne_of_lt (Nat.lt_succ_of_lt hb)), Heap.get?_push_ne _ _ _ (by rw [Heap.size_update]; exact Nat.ne_of_lt hb), Heap.get?_update_ne _ _ _ _ hne]
    exact q
  have ga : H.get? a = some (seqObj "list" #[] e1) := by
    rw [← hH, Heap.get?_push_ne _ _ _ (by rw [size_push', Heap.size_update]; exact Nat.ne_of_lt (Nat.lt_succ_of_lt ha)), Heap.get?_push_ne _ _ _ (by rw [Heap.size_update]; exact Nat.ne_of_lt ha)]
    exact g1
  have hx2 : ∀ b o, h.get? b = some o → H.get? b = some o := fun b o q => gne b o (Heap.lt_size (hx b o q).2) (hx b o q).1 (hx b o q).2
  have hc : Cmp prog w A { s with heap := H } (RowV h nn) (rkOf h) := cmp_rows hx2 hu
  have hkeys : Keys (RowV h nn) (pairsOf vs) := fun p hp => by
    rw [pairsOf_toList] at hp
    exact hv _ (mem_zip_self hp).2
  have hfin : ∀ xs : Array Keyed, xs.Perm (pairsOf vs) → Ris (kr (rkOf h) xs) vs.length → P (.done (.ret .none)) { s with heap := sortedHeap s.heap a vs (xs.map (·.2)) } := fun xs h1 h2 => by
    obtain ⟨k1, k2⟩ := sorted_of h1 h2
    exact hq _ k1 k2
  rw [list_sort_plain]
  refine wpAny_bind (listItems_at ho rfl (wpAny_bind (listUpdate_at ho rfl (wpAny_bind (seqEpoch_at g1 rfl (wpAny_bind (wpAny_newTuple (wpAny_bind (wpAny_newList (wpAny_holding ?_))))))))))
  show wpAny (model prog w) A _ P E { s with heap := ((s.heap.update a (Obj.mapSeq fun _ => #[])).push (seqObj "tuple" vs.toArray 0)).push (seqObj "list" #[] 0) }
  rw [hH]
  have hsz : vs.toArray.size = vs.length := by simp
  have last : ∀ xs : Array Keyed, xs.Perm (pairsOf vs) → Ris (kr (rkOf h) xs) vs.length → ∀ (k : Unit → Sem PySem.Fin), (∀ s', P (.done (.ret .none)) s' → wpAny (model prog w) A (k ()) P E s') → wpAny (model prog w) A (Builtin.List.listUpdate (.ref a) (fun _ => xs.map (·.2)) >>= k) P E { s with heap := H } := fun xs h1 h2 k hk => by
    refine wpAny_bind (listUpdate_at ga rfl (hk _ ?_) (hsz2 := by rw [Array.size_map, h1.size_eq, pairsOf_size, sizeLine_eq]; omega))
    show P _ { s with heap := H.update a (Obj.mapSeq fun _ => xs.map (·.2)) }
    rw [← hH]; exact hfin xs h1 h2
  dsimp only
  by_cases h2 : vs.toArray.size < 2
  · rw [if_pos h2, if_pos h2]
    refine wpAny_bind (wpAny_pure ?_)
    rw [StateT.run_pure]
    refine wpAny_bind (wpAny_pure ?_)
    dsimp only
    refine wpAny_bind (seqEpoch_at ga rfl (last (vs.toArray.zip vs.toArray) (Array.Perm.refl _) (Ris.one _ (by omega)) _ fun s' hp => ?_))
    rw [if_neg (by simp)]
    exact wpAny_pure hp
  · rw [if_neg h2, if_neg h2]
    obtain ⟨v₁, v₂, rest, rfl⟩ : ∃ v₁ v₂ rest, vs = v₁ :: v₂ :: rest := by
      match vs, hsz, h2 with
      | [], _, h2 => simp at h2
      | [_], _, h2 => simp at h2
      | v₁ :: v₂ :: rest, _, _ => exact ⟨v₁, v₂, rest, rfl⟩
    refine wpAny_bind (keyKind_lists (fun v hv' => ?_) ?_)
    · obtain ⟨b, ρ, k, rfl, q, _⟩ := hv v hv'
      exact ⟨_, hx2 _ _ q, rfl⟩
    refine wpAny_bind (wpAny_mono (w_runs (st := SortSt.mk' oneType' ((v₁ :: v₂ :: rest).toArray.zip (v₁ :: v₂ :: rest).toArray) #[] 7 none) (a₀ := pairsOf (v₁ :: v₂ :: rest)) (s := { s with heap := H })
      (Q := fun _ st' => (arrOf st').Perm (pairsOf (v₁ :: v₂ :: rest)) ∧ failedOf st' = none ∧ Ris (kr (rkOf h) (arrOf st')) (v₁ :: v₂ :: rest).length) hc hkeys ⟨Array.Perm.refl _, rfl, rfl, rfl⟩ (by rw [pairsOf_size]; simp) (by rw [pairsOf_size]; exact h64) fun st' a1 a2 a3 => ⟨a1, a2, by rwa [pairsOf_size] at a3⟩) ?_ fun _ _ e => e)
    rintro ⟨⟨⟩, st'⟩ s' ⟨rfl, hp, hf, hs⟩
    dsimp only
    refine wpAny_bind (seqEpoch_at ga rfl (last (arrOf st') hp hs _ fun s' hp' => ?_))
    rw [hf]
    dsimp only
    rw [if_neg (by simp)]
    exact wpAny_pure hp'
theorem call_sorted_rows {l : Addr} {vs : List Value} {Q : Value → Shared → Prop} (hl : s.heap.IsList l vs.toArray) (hv : ∀ v ∈ vs, RowV s.heap nn v) (h64 : vs.length < 64) (hu : A.units + 10 < cLine)
    (hq : ∀ s' b (out : List Value) e, Eff No s s' → s.heap.get? b = none → s'.heap.get? b = some (listO out.toArray e) → out.Perm vs → out.Pairwise (fun x y => rkOf s.heap x ≤ rkOf s.heap y) → Q (.ref b) s') :
    wpAny (model prog w) A (call (.builtin "sorted") [.ref l]) Q E s := by
  refine Calls.call_function_entry kind_sorted plain_sorted entry_sorted (args_sorted1 _) ?_
  unfold Builtin.«sorted»
  have hz : vs.length ≤ sizeLine := by rw [sizeLine_eq]; omega
  refine wpAny_bind (m := checkCount "sorted" 1 1 _) (wpAny_pure ?_)
  refine wpAny_bind (collect_list hl ?_ hz)
  refine wpAny_bind (wpAny_newList ?_)
  have hsz : ((s.heap.push (seqObj "list" #[] 0)).update s.heap.objs.size (Obj.mapSeq (· ++ vs.toArray))).objs.size = s.heap.objs.size + 1 := by
    rw [Heap.size_update, size_push']
  have hoL : (((s.heap.push (seqObj "list" #[] 0)).update s.heap.objs.size (Obj.mapSeq (· ++ vs.toArray))).push (seqObj "list" vs.toArray 0)).get? (s.heap.objs.size + 1) = some (seqObj "list" vs.toArray 0) := by
    rw [← hsz]; exact Heap.get?_push_size _ rfl
  show wpAny _ _ _ _ _ { s with heap := ((s.heap.push (seqObj "list" #[] 0)).update s.heap.objs.size (Obj.mapSeq (· ++ vs.toArray))).push (seqObj "list" vs.toArray 0) }
  rw [hsz]
  refine wpAny_bind (wpAny_holding (wpAny_call_entry slot_list_sort ⟨_, hoL, rfl⟩ entry_list_sort (sort_rows (h := s.heap) hoL (fun b o q => ⟨?_, ?_⟩) hv h64 ?_ fun out a1 a2 => ⟨_, rfl, wpAny_pure ⟨_, rfl, ?_⟩⟩) (args_list_sort _)))
  · exact fun z => by have := Heap.lt_size q; rw [z] at this; exact absurd this (Nat.not_lt.mpr (Nat.le_succ _))
  · have hb := Heap.lt_size q
    show (((s.heap.push (seqObj "list" #[] 0)).update s.heap.objs.size (Obj.mapSeq (· ++ vs.toArray))).push (seqObj "list" vs.toArray 0)).get? b = some o
    rw [Heap.get?_push_ne _ _ _ (by rw [hsz]; exact Nat.ne_of_lt (Nat.lt_succ_of_lt hb)), Heap.get?_update_ne _ _ _ _ (Nat.ne_of_lt hb), Heap.get?_push_ne _ _ _ (Nat.ne_of_lt hb)]
    exact q
  · show A.units + 1 + 1 < cLine; omega
  · obtain ⟨e, he⟩ := sortedAll_at s.heap vs out
    refine hq { s with heap := sortedAll s.heap vs out } (s.heap.objs.size + 1) out.toList e ⟨fun b o _ q => sortedAll_old q, rfl, rfl⟩ ?_ he a1 a2
    cases q : s.heap.get? (s.heap.objs.size + 1) with
    | none => rfl
    | some ob => exact absurd (Heap.lt_size q) (Nat.not_lt.mpr (Nat.le_succ _))
end
end Dp
end
section
open PySem PySem.W PySem.Calls PyProof.Rows
namespace Dp
def rowAt (h : Heap) : Value → List Bool
  | .ref a => match h.get? a with | some o => boolsOf o | none => []
  | _ => []
theorem rowAt_row {h : Heap} {a : Addr} {ρ : List Bool} {k : Nat} (e : h.get? a = some (listO (ρ.map Value.bool).toArray k)) : rowAt h (.ref a) = ρ := by
  unfold rowAt; dsimp only; rw [e]; dsimp only; rw [boolsOf_listO]
theorem rkOf_rowAt {h : Heap} {n : Nat} {v : Value} (x : RowV h n v) : rkOf h v = bval (rowAt h v) := by
  obtain ⟨a, ρ, k, rfl, e, _⟩ := x
  rw [rkOf_row e, rowAt_row e]
theorem rows_unique : ∀ {rs ts : List (List Bool)} {n : Nat}, (∀ ρ ∈ rs, ρ.length = n) → rs.Perm ts → rs.Pairwise (fun x y => bval x ≤ bval y) → ts.Pairwise (fun x y => bval x ≤ bval y) → rs = ts
  | [], ts, n, _, hp, _, _ => (List.nil_perm.mp hp).symm
  | ρ :: r, [], n, _, hp, _, _ => absurd hp.symm.nil_eq (by simp)
  | ρ :: r, σ :: t, n, hl, hp, h1, h2 => by
    have e : ρ = σ := by
      have m1 : σ ∈ ρ :: r := hp.mem_iff.mpr (by simp)
      have m2 : ρ ∈ σ :: t := hp.mem_iff.mp (by simp)
      rcases List.mem_cons.mp m1 with z | z
      · exact z.symm
      · rcases List.mem_cons.mp m2 with y | y
        · exact y
        · have a1 := (List.pairwise_cons.mp h1).1 σ z
          have a2 := (List.pairwise_cons.mp h2).1 ρ y
          exact bval_inj ((hl ρ (by simp)).trans (hl σ m1).symm) (by omega)
    subst e
    rw [rows_unique (fun x hx => hl x (by simp [hx])) (List.perm_cons _ |>.mp hp) (List.pairwise_cons.mp h1).2 (List.pairwise_cons.mp h2).2]
section
variable {prog : Program} {w : World} {A : Around} {E : Value → Shared → Prop} {s s' : Shared} {h : Heap} {nn : Nat}
theorem eq_rows {l b : Addr} {vs us : List Value} {Q : Value → Shared → Prop} (hl : s.heap.IsList l vs.toArray) (hb : s.heap.IsList b us.toArray) (hv : ∀ v ∈ vs, RowV s.heap nn v) (hu : ∀ v ∈ us, RowV s.heap nn v) (he : vs.map (rowAt s.heap) = us.map (rowAt s.heap)) (hr : A.units + 10 < cLine)
    (hq : Q (.bool true) s) : wpAny (model prog w) A (compareOp .Eq (.ref l) (.ref b)) Q E s := by
  have hsz : vs.length = us.length := by have := congrArg List.length he; simpa using this
  refine SeqAt.eq_listAt (e := fun _ => true) hl hb (by simpa using hsz) (by omega) (fun j h1 h2 => ?_) (by rw [List.all_eq_true.mpr (fun _ _ => rfl)]; exact hq)
  have j1 : j < vs.length := by simpa using h1
  have j2 : j < us.length := by simpa using h2
  have e1 : vs.toArray[j] = vs[j] := by simp
  have e2 : us.toArray[j] = us[j] := by simp
  obtain ⟨a, ρ, k, x1, x2, x3⟩ := hv vs[j] (List.getElem_mem j1)
  obtain ⟨c, σ, k', y1, y2, y3⟩ := hu us[j] (List.getElem_mem j2)
  have e3 : ρ = σ := by
    have h3 : (vs.map (rowAt s.heap))[j]? = (us.map (rowAt s.heap))[j]? := by rw [he]
    rw [List.getElem?_map, List.getElem?_map, List.getElem?_eq_getElem j1, List.getElem?_eq_getElem j2, x1, y1] at h3
    simp only [Option.map_some] at h3
    rw [rowAt_row x2, rowAt_row y2] at h3
    exact Option.some.inj h3
  subst e3
  rw [e1, e2, x1, y1]
  by_cases hac : a = c
  · subst hac; exact SeqAt.EqAt.same _
  · refine SeqAt.EqAt.of_refs hac ?_
    have := SeqAt.RcAt.lists (A := A.in1) (e := fun _ => true) (⟨_, x2, rfl, _, rfl⟩ : s.heap.IsList a (ρ.map Value.bool).toArray) (⟨_, y2, rfl, _, rfl⟩ : s.heap.IsList c (ρ.map Value.bool).toArray) rfl (by show A.units + 1 < cLine; omega) (fun i i1 i2 => SeqAt.EqAt.same _)
    rwa [List.all_eq_true.mpr (fun _ _ => rfl)] at this
end
end Dp
end
section
open PySem PySem.W PySem.Calls PyProof.Rows
namespace Dp
section
variable {prog : Program} {w : World} {K : Frag} {B : Heap} {A : Around} {E : Value → Shared → Prop} {s s' s₁ s₂ : Shared} {L a l : Addr} {m m' : Str → Option Value} {h h' : Heap} {env : Env}
theorem call_law_at {lst : Addr} {vs : List Value} {ns : List Int} {k : Nat} {o : Int} {t u : Tok} {Rr : Result → Shared → Prop} (G : Bas w K B) (kf : KF K) (oB : On B s.heap) (rm : Rm A 1) (hl : s.heap.IsList lst vs.toArray) (hi : IntsAre vs ns) (hz : vs.length ≤ 1000)
    (hq : ∀ s' v t', Eff No s s' → Rr (.ok (.ret (.int v t'))) s') :
    codeAny (model prog w) A (.call (.ref 240) ⟨[.ref lst, .int k t, .int o u], []⟩) Rr s := by
  obtain ⟨pm, ho⟩ := kf.fLA.at_
  refine call_fn (binds := [("script", .ref lst), ("k", .int k t), ("other", .int o u)]) G oB ho kf.fLA.code rm.room (BindsTo.of_eq rfl) (locs rfl) (fun h₁ L F hL hk => ?_)
  have hl1 : h₁.IsList lst vs.toArray := hl.at fun o q => hk _ o q
  refine wpAny_execs_cons (wpAny_Return_some (wpAny_IfExp (wpAny_isTrue_Compare1 (ld F rfl (Call_ (nmB G kf F (PyProof.Rows.callWith_builtin1 (args_cons (ld F rfl (args_nil ?_))))))))))
  refine call_len_list hl1 (by rw [List.size_toArray]; omega) (P.lt_int (wpAny_truthy_bool ?_))
  rw [List.size_toArray]
  by_cases c : (k : Int) < (vs.length : Int)
  · rw [if_pos (by simpa using c)]
    have hk' : k < ns.length := by rw [← hi.length]; omega
    obtain ⟨tv, hv⟩ := ints_ref hi (List.getElem?_eq_getElem hk')
    refine Subscript_ (ld (s := ⟨h₁, s.gens, s.drawn, _, s.os⟩) F rfl (ld (s := ⟨h₁, s.gens, s.drawn, _, s.os⟩) F rfl ?_))
    refine itemList (s := ⟨h₁, s.gens, s.drawn, _, s.os⟩) (k := k) hl1 hv (by rw [sizeLine_eq]; omega) ?_
    exact hq _ _ _ ⟨fun b o _ q => hk b o q, rfl, rfl⟩
  · rw [if_neg (by simpa using c)]
    refine ld (s := ⟨h₁, s.gens, s.drawn, _, s.os⟩) F rfl ?_
    exact hq _ _ _ ⟨fun b o _ q => hk b o q, rfl, rfl⟩
end
end Dp
end
section
open PySem PySem.W PySem.Calls PyProof.Rows
namespace Dp
def lcSt : Stmt := topDef "_law_clauses"
abbrev lcEnv (L : Addr) : Env := envOf "_law_clauses" (dScope lcSt) L 247 (.ref 246)
def lcBody : List Stmt := dBody lcSt
def lcOuter : List Stmt := forBody (stAt lcBody 1)
def lcInner : List Stmt := forBody (stAt lcOuter 1)
structure GoodC (n : Nat) (c : List Int) : Prop where
  nd : c.Nodup
  lit : ∀ x ∈ c, IsLit n x ∧ -x ∉ c
theorem lit_of {v : Int} {n : Nat} (hn : 1 ≤ n) : IsLit n ((v.fdiv 2).fmod n + 1) ∧ IsLit n (((v.fdiv 2).fmod n + 1) * -1) := by
  have h1 : 0 ≤ (v.fdiv 2).fmod (n : Int) := Int.fmod_nonneg_of_pos _ (by omega)
  have h2 : (v.fdiv 2).fmod (n : Int) < n := Int.fmod_lt_of_pos _ (by omega)
  refine ⟨⟨by omega, by omega⟩, ⟨by omega, by omega⟩⟩
section
variable {prog : Program} {w : World} {K : Frag} {B : Heap} {A : Around} {E : Value → Shared → Prop} {s s' s₁ s₂ : Shared} {L a l : Addr} {m m' : Str → Option Value} {h h' : Heap} {env : Env}
theorem notIn_ints {vs : List Value} {ns : List Int} {k : Nat} {x : Int} {t : Tok} {Q : Value → Shared → Prop} (hl : s.heap.get? l = some (listO vs.toArray k)) (hi : IntsAre vs ns) (hq : Q (.bool (decide (x ∉ ns))) s) : wpAny (model prog w) A (compareOp .NotIn (.int x t) (.ref l)) Q E s := by
  have hany : ∀ {vs : List Value} {ns : List Int}, IntsAre vs ns → vs.any (fun v => (match v with | .int n _ => n | _ => 0) == x) = decide (x ∈ ns) := fun hi => by
    induction hi with
    | nil => simp
    | cons n t _ ih =>
      rw [List.any_cons, ih]
      by_cases c : n = x
      · subst c; simp
      · have : (n == x) = false := by simp [c]
        show (n == x || _) = _
        rw [this]; simp [Ne.symm c]
  refine SeqAt.notIn_listAt (fun v => (match v with | .int n _ => n | _ => 0) == x) (listO_is hl) (fun y hy => ?_) ?_
  · obtain ⟨n, t', rfl⟩ := hi.all y (by simpa using hy)
    exact MeetsSeq.EqGives.at (MeetsSeq.EqGives.int n x t' t) _ _
  · rw [show vs.toArray.any (fun v => (match v with | .int n _ => n | _ => 0) == x) = vs.any (fun v => (match v with | .int n _ => n | _ => 0) == x) by simp, hany hi]
    have : (!decide (x ∈ ns)) = decide (x ∉ ns) := by by_cases c : x ∈ ns <;> simp [c]
    rw [this]; exact hq
def Ev (prog : Program) (w : World) (env : Env) (h : Heap) (e : PySem.Expr) (v : Int) : Prop := ∀ (A : Around) (E : Value → Shared → Prop) (s : Shared) (Q : Value → Shared → Prop), s.heap = h → (∀ s' t, s'.heap = h → s'.gens = s.gens → s'.os = s.os → Q (.int v t) s') → wpAny (model prog w) A (eval e env) Q E s
theorem Ev.name {cn : Str} {cs : Scope} {cd : Value} {x : Str} {p : Pos} {v : Int} {t : Tok} (F : Fr B L h m) (hm : m x = some (.int v t)) (hk : cs.kind = .function := by rfl) (hl : (envOf cn cs L a cd).kindOf x = some .local := by rfl) (hd : (x == ("__debug__" : Str)) = false := by decide) : Ev prog w (envOf cn cs L a cd) h (.Name x p) v := by
  rintro A E s Q rfl hq
  exact ld F hm (hq s t rfl rfl rfl) hk hl hd
theorem Ev.const {i : Int} {k : Nat} {p : Pos} : Ev prog w env h (.Constant (.int i) k p) i := by
  rintro A E s Q rfl hq
  exact wpAny_Constant_int (hq _ _ rfl rfl rfl)
theorem Ev.add {e f : PySem.Expr} {p : Pos} {i j : Int} (x : Ev prog w env h e i) (y : Ev prog w env h f j) : Ev prog w env h (.BinOp e .Add f p) (i + j) := by
  rintro A E s Q e0 hq
  exact wpAny_BinOp (x A E s _ e0 fun s1 t1 e1 g1 o1 => y A E s1 _ e1 fun s2 t2 e2 g2 o2 => PyProof.Rows.add_int (hq _ _ e2 (g2.trans g1) (o2.trans o1)))
theorem Ev.mul {e f : PySem.Expr} {p : Pos} {i j : Int} (x : Ev prog w env h e i) (y : Ev prog w env h f j) (hm : IntMulOk i j) : Ev prog w env h (.BinOp e .Mult f p) (i * j) := by
  rintro A E s Q e0 hq
  exact wpAny_BinOp (x A E s _ e0 fun s1 t1 e1 g1 o1 => y A E s1 _ e1 fun s2 t2 e2 g2 o2 => PyProof.Rows.mul_int (hq _ _ e2 (g2.trans g1) (o2.trans o1)) hm)
theorem Ev.mod {e f : PySem.Expr} {p : Pos} {i j : Int} (x : Ev prog w env h e i) (y : Ev prog w env h f j) (hj : j ≠ 0) : Ev prog w env h (.BinOp e .Mod f p) (i.fmod j) := by
  rintro A E s Q e0 hq
  exact wpAny_BinOp (x A E s _ e0 fun s1 t1 e1 g1 o1 => y A E s1 _ e1 fun s2 t2 e2 g2 o2 => PyProof.Rows.mod_int hj (hq _ _ e2 (g2.trans g1) (o2.trans o1)))
theorem Ev.div {e f : PySem.Expr} {p : Pos} {i j : Int} (x : Ev prog w env h e i) (y : Ev prog w env h f j) (hj : j ≠ 0) (hs : j.natAbs < 1073741824) : Ev prog w env h (.BinOp e .FloorDiv f p) (i.fdiv j) := by
  rintro A E s Q e0 hq
  exact wpAny_BinOp (x A E s _ e0 fun s1 t1 e1 g1 o1 => y A E s1 _ e1 fun s2 t2 e2 g2 o2 => PyProof.Rows.floordiv_int hj (hq _ _ e2 (g2.trans g1) (o2.trans o1)) (.inl (PyProof.noPylong_small hs)))
theorem Ev.to {e : PySem.Expr} {i j : Int} (x : Ev prog w env h e i) (hij : i = j) : Ev prog w env h e j := hij ▸ x
theorem Ev.neg {e : PySem.Expr} {p : Pos} {i : Int} (x : Ev prog w env h e i) : Ev prog w env h (.UnaryOp .USub e p) (-i) := by
  rintro A E s Q e0 hq
  exact UnaryOp_ (x A E s _ e0 fun s1 t1 e1 g1 o1 => P.neg_int (hq _ _ e1 g1 o1))
theorem Ev.sign {e : PySem.Expr} {p1 p2 p3 p4 p5 p6 p1' p2' : Pos} {k0 k1 k2 k3 : Nat} {i : Int} (x : Ev prog w env h e i) : Ev prog w env h (.IfExp (.Compare (.BinOp e .Mod (.Constant (.int 2) k0 p1) p2) [.Eq] [.Constant (.int 0) k1 p3] p4) (.Constant (.int 1) k2 p5) (.UnaryOp .USub (.Constant (.int 1) k3 p6) p1') p2') (if i.fmod 2 = 0 then 1 else -1) := by
  rintro A E s Q e0 hq
  refine wpAny_IfExp (wpAny_isTrue_Compare1 ((x.mod Ev.const (by decide)) A E s _ e0 fun s1 t1 e1 g1 o1 => Ev.const A E s1 _ e1 fun s2 t2 e2 g2 o2 => PyProof.Rows.eq_int (wpAny_truthy_bool ?_)))
  by_cases c : i.fmod 2 = 0
  · rw [if_pos c] at hq
    rw [if_pos (by simpa using c)]
    exact Ev.const _ _ _ _ e2 fun s3 t3 e3 g3 o3 => hq _ _ e3 (g3.trans (g2.trans g1)) (o3.trans (o2.trans o1))
  · rw [if_neg c] at hq
    rw [if_neg (by simpa using c)]
    exact Ev.const.neg _ _ _ _ e2 fun s3 t3 e3 g3 o3 => hq _ _ e3 (g3.trans (g2.trans g1)) (o3.trans (o2.trans o1))
structure LcM (m : Str → Option Value) (lst : Addr) (st sz : Nat) (ts tz : Tok) (cl0 : Addr) : Prop where
  script : m "script" = some (.ref lst)
  start : m "start" = some (.int st ts)
  size : m "size" = some (.int sz tz)
  clauses : m "clauses" = some (.ref cl0)
theorem LcM.upd {lst : Addr} {st sz : Nat} {ts tz : Tok} {cl0 : Addr} (x : LcM m lst st sz ts tz cl0) {y : Str} {v : Value} (h : y ∉ (["script", "start", "size", "clauses"] : List Str)) : LcM (updS m y v) lst st sz ts tz cl0 := by
  have ne : ∀ z ∈ (["script", "start", "size", "clauses"] : List Str), z ≠ y := fun z hz e => h (e ▸ hz)
  exact ⟨(updS_ne (ne _ (by decide))).trans x.script, (updS_ne (ne _ (by decide))).trans x.start, (updS_ne (ne _ (by decide))).trans x.size, (updS_ne (ne _ (by decide))).trans x.clauses⟩
set_option maxHeartbeats 1000000 in
theorem lc_turn {lst cl0 cb : Addr} {vs us : List Value} {ns cur : List Int} {st sz k j kb : Nat} {ts tz tk tj : Tok} {Q : Flow → Shared → Prop} (G : Bas w K B) (kf : KF K) (F : Fr B L s.heap m) (rm : Rm A 2) (M : LcM m lst st sz ts tz cl0) (hmk : m "k" = some (.int k tk)) (hmj : m "j" = some (.int j tj)) (hmc : m "clause" = some (.ref cb))
    (hl : s.heap.IsList lst vs.toArray) (hi : IntsAre vs ns) (hz : vs.length ≤ 1000) (h1 : 1 ≤ sz) (hcb : s.heap.get? cb = some (listO us.toArray kb)) (hus : IntsAre us cur) (hcz : cur.length ≤ 1000) (g : GoodC sz cur) (hcL : cb ≠ L) (hcB : B.get? cb = none)
    (hq : ∀ s' m' us' kb' cur', Fr B L s'.heap m' → LcM m' lst st sz ts tz cl0 → m' "k" = some (.int k tk) → m' "clause" = some (.ref cb) → s'.heap.get? cb = some (listO us'.toArray kb') → IntsAre us' cur' → GoodC sz cur' → cur' ≠ [] → cur'.length ≤ cur.length + 1 → Eff (fun b => b = cb ∨ b = L) s s' → Q .next s') :
    wpAny (model prog w) A (execs lcInner (lcEnv L)) Q E s := by
  refine wpAny_execs_cons (asn (B := B) ?_)
  refine Call_ (nmK G F kf.gLA (callWith_of (P := K.In) rfl (keeps_K kf.fLA.keep) (evalArgs_plain ?_)))
  refine args_cons (ld F M.script ?_)
  refine args_cons ?_
  refine (((Ev.name F M.start).add (Ev.const.mul (Ev.name F hmk) (by mul_fits))).add Ev.const |>.add (Ev.name F hmj) |>.to (j := ((st + 4 * k + 1 + j : Nat) : Int)) (by omega)) _ _ _ _ rfl fun s₁ t₁ q₁ g₁ o₁ => ?_
  refine args_cons ?_
  refine (((Ev.const.mul (Ev.name F hmk) (by mul_fits)).add (Ev.const.mul (Ev.name F hmj) (by mul_fits))).add Ev.const) _ _ _ _ q₁ fun s₂ t₂ q₂ g₂ o₂ => ?_
  have hO2 : On B s₂.heap := by rw [q₂]; exact (frOn F)
  refine args_nil ⟨G.in hO2, wpAny_call ?_⟩
  refine call_law_at G kf hO2 (rm.less (by omega)) (by rw [q₂]; exact hl) hi hz fun s₃ v tv e₃ => ?_
  have e03 : Eff No s s₃ := ⟨fun b o n q => e₃.keep b o n (by rw [q₂]; exact q), e₃.gens.trans (g₂.trans g₁), e₃.os.trans (o₂.trans o₁)⟩
  refine ⟨_, Fr_no F e03, fun s₄ F₄ e₄ => ?_⟩
  have M₄ := M.upd (y := "n") (v := .int v tv) (by decide)
  have k4 : updS m "n" (.int v tv) "k" = some (.int k tk) := (updS_ne (by decide)).trans hmk
  have c4 : updS m "n" (.int v tv) "clause" = some (.ref cb) := (updS_ne (by decide)).trans hmc
  have n4 : updS m "n" (.int v tv) "n" = some (.int v tv) := updS_self
  generalize updS m "n" (.int v tv) = m₄ at F₄ M₄ k4 c4 n4
  have e04 : Eff (fun b => b = cb ∨ b = L) s s₄ := e03.no.same (e₄.sub fun b z => .inr z)
  have cb4 : s₄.heap.get? cb = some (listO us.toArray kb) := e₄.keep _ _ (fun z => hcL z) (e03.all hcb)
  refine wpAny_execs_cons (asn (B := B) ?_)
  have hsz0 : (sz : Int) ≠ 0 := by omega
  refine (((((Ev.name F₄ n4).div (Ev.const (i := 2)) (by decide) (by decide)).mod (Ev.name F₄ M₄.size) hsz0).add Ev.const).mul (Ev.sign (Ev.name F₄ n4)) (.of_right (by split <;> decide))) _ _ _ _ rfl fun s₅ t₅ q₅ g₅ o₅ => ?_
  obtain ⟨lit, hlit, hL1⟩ : ∃ lit, ((v.fdiv 2).fmod (sz : Int) + 1) * (if v.fmod 2 = 0 then 1 else -1) = lit ∧ IsLit sz lit := by
    refine ⟨_, rfl, ?_⟩
    have := lit_of (v := v) h1
    split
    · rw [Int.mul_one]; exact this.1
    · exact this.2
  rw [hlit]
  have e05 : Eff (fun b => b = cb ∨ b = L) s s₅ := ⟨fun b o n q => by rw [q₅]; exact e04.keep b o n q, g₅.trans e04.gens, o₅.trans e04.os⟩
  refine ⟨m₄, by rw [q₅]; exact F₄, fun s₆ F₆ e₆ => ?_⟩
  have M₆ := M₄.upd (y := "literal") (v := .int lit t₅) (by decide)
  have k6 : updS m₄ "literal" (.int lit t₅) "k" = some (.int k tk) := (updS_ne (by decide)).trans k4
  have c6 : updS m₄ "literal" (.int lit t₅) "clause" = some (.ref cb) := (updS_ne (by decide)).trans c4
  have l6 : updS m₄ "literal" (.int lit t₅) "literal" = some (.int lit t₅) := updS_self
  generalize updS m₄ "literal" (.int lit t₅) = m₆ at F₆ M₆ k6 c6 l6
  have e06 : Eff (fun b => b = cb ∨ b = L) s s₆ := e05.same (e₆.sub fun b z => .inr z)
  have cb6 : s₆.heap.get? cb = some (listO us.toArray kb) := e₆.keep _ _ (fun z => hcL z) (by rw [q₅]; exact cb4)
  refine wpAny_execs_cons (wpAny_If (isTrue_and (wpAny_isTrue_Compare1 (ld F₆ l6 (ld F₆ c6 (notIn_ints cb6 hus (wpAny_truthy_bool ?_)))))))
  have done : lit ∈ cur ∨ -lit ∈ cur → ∀ tk, wpAny (model prog w) A (execs [] (lcEnv L)) (fun f s' => match f with | .next => wpAny (model prog w) A (execs [] (lcEnv L)) Q E s' | f => Q f s') E ⟨s₆.heap, s₆.gens, s₆.drawn, tk, s₆.os⟩ := fun hin tk =>
    wpAny_execs_nil (wpAny_execs_nil (hq _ m₆ us kb cur F₆ M₆ k6 c6 cb6 hus g (fun z => by rw [z] at hin; simp at hin) (by omega) ⟨e06.keep, e06.gens, e06.os⟩))
  by_cases c1 : lit ∈ cur
  · rw [if_neg (by simpa using c1)]
    exact done (.inl c1) _
  · rw [if_pos (by simpa using c1)]
    refine isTrue_and (wpAny_isTrue_Compare1 (UnaryOp_ (ld F₆ l6 (P.neg_int (ld (s := ⟨s₆.heap, s₆.gens, s₆.drawn, _, s₆.os⟩) F₆ c6 (notIn_ints cb6 hus (wpAny_truthy_bool ?_)))))))
    by_cases c2 : -lit ∈ cur
    · rw [if_neg (by simpa using c2)]
      exact done (.inr c2) _
    · rw [if_pos (by simpa using c2)]
      refine isTrue_and_nil ?_
      rw [if_pos rfl]
      refine wpAny_execs_cons (wpAny_Expr ?_)
      refine MethodCall_ ?_
      refine ld (s := ⟨s₆.heap, s₆.gens, s₆.drawn, _, s₆.os⟩) F₆ c6 ?_
      refine meth_list (s := ⟨s₆.heap, s₆.gens, s₆.drawn, _, s₆.os⟩) cb6 PySem.F.slot_list_append PySem.F.type_list_append ?_
      refine callWith_method1 ?_ se_name plain0
      refine args_cons (ld (s := ⟨s₆.heap, s₆.gens, s₆.drawn, _, s₆.os⟩) F₆ l6 (args_nil ?_))
      refine list_push (s := ⟨s₆.heap, s₆.gens, s₆.drawn, _, s₆.os⟩) cb6 (by rw [List.size_toArray, hus.length, sizeLine_eq]; omega) fun h₇ k₇ sb₇ ho₇ => ?_
      have e67 : Eff (fun b => b = cb) s₆ ⟨h₇, s₆.gens, s₆.drawn, s₆.toks + 1, s₆.os⟩ := ⟨fun b o n q => (sb₇.2 b n).trans q, rfl, rfl⟩
      have F₇ : Fr B L h₇ m₆ := Fr_eff F₆ e67 (fun z => hcL z.symm) fun b o q z => by rw [show b = cb from z, hcB] at q; cases q
      refine wpAny_execs_nil (wpAny_execs_nil (hq _ m₆ (us ++ [.int lit t₅]) k₇ (cur ++ [lit]) F₇ M₆ k6 c6 (by rw [show (us ++ [Value.int lit t₅]).toArray = us.toArray.push (.int lit t₅) by simp]; exact ho₇) (hus.append (.cons lit t₅ .nil)) ⟨?_, ?_⟩ (by simp) (by simp) ⟨fun b o n q => (sb₇.2 b fun z => n (.inl z)).trans (e06.keep b o n q), e06.gens, e06.os⟩))
      · rw [List.nodup_append]
        exact ⟨g.nd, by simp, fun x hx y hy => by simp at hy; subst hy; exact fun z => c1 (z ▸ hx)⟩
      · intro x hx
        rcases List.mem_append.mp hx with z | z
        · refine ⟨(g.lit x z).1, fun y => ?_⟩
          rcases List.mem_append.mp y with y | y
          · exact (g.lit x z).2 y
          · simp at y; exact c2 (by rw [show -lit = x by omega]; exact z)
        · simp at z; subst z
          refine ⟨hL1, fun y => ?_⟩
          rcases List.mem_append.mp y with y | y
          · exact c2 y
          · simp at y; have := hL1.1; omega
end
end Dp
end
section
open PySem PySem.W PySem.Calls PyProof.Rows
namespace Dp
structure FinC (n : Nat) (c : List Int) : Prop where
  g : GoodC n c
  ne : c ≠ []
  len : c.length ≤ 3
section
variable {prog : Program} {w : World} {K : Frag} {B : Heap} {A : Around} {E : Value → Shared → Prop} {s s' s₁ s₂ : Shared} {L a l : Addr} {m m' : Str → Option Value} {h h' : Heap} {env : Env}
theorem evalArgs_pl {M : Model} {f : Value} {e : PySem.Expr} {rest : List PySem.Expr} {pos : Pos} {Q : Args → Shared → Prop} (h : wpAny M A (spliced (backTo pos (starEach (e :: rest) env))) (fun vs s' => Q ⟨vs, []⟩ s') E s) (he : starEach (e :: rest) env = (false, eval e env) :: starEach rest env) : wpAny M A (evalArgs f true (backTo pos (starEach (e :: rest) env)) []) Q E s := by
  rw [he] at h ⊢
  exact evalArgs_plain h
set_option maxHeartbeats 1000000 in
theorem lc_clause {lst cl0 : Addr} {vs : List Value} {ns : List Int} {st sz k : Nat} {ts tz tk : Tok} {outs : List (Addr × List Int)} {k0 : Nat} {Q : Flow → Shared → Prop} (G : Bas w K B) (kf : KF K) (F : Fr B L s.heap m) (rm : Rm A 2) (M : LcM m lst st sz ts tz cl0) (hmk : m "k" = some (.int k tk))
    (hl : s.heap.IsList lst vs.toArray) (hi : IntsAre vs ns) (hz : vs.length ≤ 1000) (h1 : 1 ≤ sz) (hlB : ∃ o, B.get? lst = some o) (hc0 : s.heap.get? cl0 = some (listO (outs.map fun p => Value.ref p.1).toArray k0)) (hoz : outs.length ≤ 1000) (hcL : cl0 ≠ L) (hcB : B.get? cl0 = none)
    (hq : ∀ s' m' cb c k0', Fr B L s'.heap m' → LcM m' lst st sz ts tz cl0 → s.heap.get? cb = none → FinC sz c → (∃ oc, s'.heap.get? cb = some oc ∧ IntList oc c) → s'.heap.get? cl0 = some (listO ((outs ++ [(cb, c)]).map fun p => Value.ref p.1).toArray k0') → Eff (fun b => b = cl0 ∨ b = L) s s' → Q .next s') :
    wpAny (model prog w) A (execs lcOuter (lcEnv L)) Q E s := by
  refine wpAny_execs_cons (asn (B := B) (List_ (args_nil (new_list (by rw [sizeLine_eq]; simp) fun s₁ cb hb hb' e₁ => ⟨m, Fr_no F e₁, fun s₂ F₂ e₂ => ?_⟩))))
  have M₂ := M.upd (y := "clause") (v := .ref cb) (by decide)
  have k2 : updS m "clause" (.ref cb) "k" = some (.int k tk) := (updS_ne (by decide)).trans hmk
  have c2 : updS m "clause" (.ref cb) "clause" = some (.ref cb) := updS_self
  generalize updS m "clause" (.ref cb) = m₂ at F₂ M₂ k2 c2
  have cbL : cb ≠ L := fun z => by obtain ⟨o, y⟩ := Fr_live F; rw [← z, hb] at y; cases y
  have cbB : B.get? cb = none := (frOn F).none hb
  have cb0 : cb ≠ cl0 := fun z => by rw [z, hc0] at hb; cases hb
  have lstL : lst ≠ L := fun z => by
    obtain ⟨o, y⟩ := hlB
    have := Heap.lt_size y; rw [z] at this; exact absurd this (Nat.not_lt.mpr F.above)
  have lstc : lst ≠ cb := fun z => by obtain ⟨o, y⟩ := hlB; rw [z, cbB] at y; cases y
  have lst0 : lst ≠ cl0 := fun z => by obtain ⟨o, y⟩ := hlB; rw [z, hcB] at y; cases y
  have e02 : Eff (fun b => b = L) s s₂ := e₁.no.same e₂
  have cb2 : s₂.heap.get? cb = some (listO #[] 0) := e₂.keep _ _ cbL hb'
  have hl2 : s₂.heap.IsList lst vs.toArray := hl.at fun o q => e02.keep _ o lstL q
  refine wpAny_execs_cons (wpAny_For (Call_ (nmB G kf F₂ (PyProof.Rows.callWith_type1 ?_))))
  refine args_cons (wpAny_BinOp (wpAny_Constant_int (wpAny_BinOp ?_)))
  refine Call_ ?_
  refine nmK (s := ⟨s₂.heap, s₂.gens, s₂.drawn, _, s₂.os⟩) G F₂ kf.gLA ?_
  refine callWith_of (P := K.In) rfl (keeps_K kf.fLA.keep) ?_
  refine evalArgs_pl ?_ se_name
  refine args_cons ?_ se_name
  refine ld (s := ⟨s₂.heap, s₂.gens, s₂.drawn, _, s₂.os⟩) F₂ M₂.script ?_
  refine args_cons ?_
  refine (((Ev.name F₂ M₂.start).add (Ev.const.mul (Ev.name F₂ k2) (by mul_fits))).to (j := ((st + 4 * k : Nat) : Int)) (by omega)) _ _ _ _ rfl fun s₃ t₃ q₃ g₃ o₃ => ?_
  refine args_cons ((Ev.name F₂ k2) _ _ _ _ q₃ fun s₄ t₄ q₄ g₄ o₄ => ?_)
  have hO4 : On B s₄.heap := by rw [q₄]; exact (frOn F₂)
  refine args_nil ⟨G.in hO4, wpAny_call ?_⟩
  refine call_law_at G kf hO4 (rm.less (by omega)) (by rw [q₄]; exact hl2) hi hz fun s₅ v tv e₅ => ?_
  have e25 : Eff No s₂ s₅ := ⟨fun b o n q => e₅.keep b o n (by rw [q₄]; exact q), e₅.gens.trans (g₄.trans g₃), e₅.os.trans (o₄.trans o₃)⟩
  refine wpAny_Constant_int (PyProof.Rows.mod_int (by decide) (PyProof.Rows.add_int (args_nil ?_)))
  refine call_range1 fun s₆ r tr ur vr hr0 hr e₆ => ?_
  have e26 : Eff No s₂ s₆ := e25.same ⟨fun b o n q => e₆.keep b o n q, e₆.gens, e₆.os⟩
  have hc1 : 0 ≤ v.fmod 3 := Int.fmod_nonneg_of_pos _ (by omega)
  have hc2 : v.fmod 3 < 3 := Int.fmod_lt_of_pos _ (by omega)
  obtain ⟨c, hc⟩ : ∃ c : Nat, 1 + v.fmod 3 = (c : Int) ∧ 1 ≤ c ∧ c ≤ 3 := ⟨(1 + v.fmod 3).toNat, by omega, by omega, by omega⟩
  rw [hc.1] at hr
  refine iter_rangeN hr ⟨by omega, by omega, by omega, by omega⟩ fun s₇ it T e₇ hit0 IT hT => ?_
  have e27 := e26.same e₇
  rw [show ((c : Int) - 0).toNat = c by omega] at hT
  have hit2 : s₂.heap.get? it = none := e26.none hit0
  have F₇ := Fr_no F₂ e27
  have liveL : ∃ o, s₂.heap.get? L = some o := Fr_live F₂
  have itL : it ≠ L := fun z => by obtain ⟨o, y⟩ := liveL; rw [← z, hit2] at y; cases y
  have itc : it ≠ cb := fun z => by rw [← z, hit2] at cb2; cases cb2
  have its : s.heap.get? it = none := Eff_fresh e02 hit2 itL
  have e07 : Eff (fun b => b = cb ∨ b = L) s s₇ := (e02.sub fun b z => .inr z).same e27.no
  refine loop_iter (prog := prog) (w := w) (B := B) rm.hh IT (by simpa using Ne.symm itL) (by simp) (fun b hb => by rw [List.mem_singleton] at hb; subst hb; exact (frOn F).none its)
    (fun rem m' s' => ∃ (j : Nat) (us : List Value) (cur : List Int) (kb : Nat), j ≤ c ∧ rem = upFrom (j : Int) (c - j) ∧ LcM m' lst st sz ts tz cl0 ∧ m' "k" = some (.int k tk) ∧ m' "clause" = some (.ref cb) ∧ s'.heap.get? cb = some (listO us.toArray kb) ∧ IntsAre us cur ∧ GoodC sz cur ∧ cur.length ≤ j ∧ (1 ≤ j → cur ≠ []) ∧ Eff (fun b => b = cb ∨ b = L) s s')
    ⟨0, [], [], 0, Nat.zero_le _, rfl, M₂, k2, c2, e27.all cb2, .nil, ⟨List.nodup_nil, fun x h => nomatch h⟩, Nat.zero_le _, fun h => absurd h (by omega), e07⟩ F₇ hT ?_ ?_
  · rintro y rem m₁ s₈ s₉ v' ⟨j, us, cur, kb, hj, hrem, M₈, k8, c8, cb8, hus, hg, hcl, hne, e08⟩ ⟨tj, rfl⟩ F₉ e₉ hal
    obtain ⟨q, hq1⟩ : ∃ q, c - j = q + 1 := by
      cases z : c - j with
      | zero => rw [z] at hrem; cases hrem
      | succ q => exact ⟨q, rfl⟩
    rw [hq1, upFrom_succ] at hrem
    injection hrem with hy hrem
    subst hy
    have e09 : Eff (fun b => b = cb ∨ b = L) s s₉ := e08.trans e₉ fun b z => by rcases z with rfl | rfl; exact .inr its; exact .inl (.inr rfl)
    have M₉ := M₈.upd (y := "j") (v := .int j tj) (by decide)
    have k9 : updS m₁ "j" (.int j tj) "k" = some (.int k tk) := (updS_ne (by decide)).trans k8
    have c9 : updS m₁ "j" (.int j tj) "clause" = some (.ref cb) := (updS_ne (by decide)).trans c8
    have j9 : updS m₁ "j" (.int j tj) "j" = some (.int j tj) := updS_self
    replace F₉ : Fr B L s₉.heap (updS m₁ "j" (.int j tj)) := F₉
    have cb9 := e₉.keep _ _ (fun z => z.elim (fun y => itc y.symm) cbL) cb8
    have hl9 : s₉.heap.IsList lst vs.toArray := hl.at fun o q => e09.keep _ o (fun z => z.elim lstc lstL) q
    refine lc_turn G kf F₉ rm M₉ k9 j9 c9 hl9 hi hz h1 cb9 hus (by omega) hg cbL cbB fun s' m' us' kb' cur' F' M' k' c' cb' hus' hg' hne' hlen' e' => ?_
    refine ⟨m', _, F', ⟨j + 1, us', cur', kb', by omega, ?_, M', k', c', cb', hus', hg', by omega, fun _ => hne', e09.same e'⟩, e', ?_⟩
    · rw [hrem, show c - (j + 1) = q by omega]; rfl
    · rintro b (hb | hb) z
      · rw [List.mem_singleton] at hb; subst hb; exact z.elim itc itL
      · cases hb
  · rintro m₁ s₈ s₉ ⟨j, us, cur, kb, hj, hrem, M₈, k8, c8, cb8, hus, hg, hcl, hne, e08⟩ F₉ e₉
    have hjc : j = c := by
      cases z : c - j with
      | zero => omega
      | succ q => rw [z] at hrem; cases hrem
    subst hjc
    have e09 : Eff (fun b => b = cb ∨ b = L) s s₉ := e08.new e₉ fun b z => z ▸ its
    have cb9 := e₉.keep _ _ (fun z => itc z.symm) cb8
    have h09 := e09.keep _ _ (fun z => z.elim (fun y => cb0 y.symm) hcL) hc0
    refine wpAny_execs_cons (wpAny_Expr ?_)
    refine MethodCall_ ?_
    refine ld F₉ M₈.clauses ?_
    refine meth_list h09 PySem.F.slot_list_append PySem.F.type_list_append ?_
    refine callWith_method1 ?_ se_name plain0
    refine args_cons (ld F₉ c8 (args_nil ?_))
    refine list_push h09 (by rw [List.size_toArray, List.length_map, sizeLine_eq]; omega) fun h₁₀ k₁₀ sb₁₀ ho₁₀ => ?_
    have e₁₀ : Eff (fun b => b = cl0) s₉ { s₉ with heap := h₁₀ } := ⟨fun b o n q => (sb₁₀.2 b n).trans q, rfl, rfl⟩
    have F₁₀ : Fr B L h₁₀ m₁ := Fr_eff F₉ e₁₀ (fun z => hcL z.symm) fun b o q z => by rw [show b = cl0 from z, hcB] at q; cases q
    refine wpAny_execs_nil (hq _ m₁ cb cur k₁₀ F₁₀ M₈ hb ⟨hg, hne (by omega), by omega⟩ ⟨_, (sb₁₀.2 _ cb0).trans cb9, us, kb, rfl, hus⟩ (by rw [List.map_append, show ((outs.map fun p => Value.ref p.1) ++ [(cb, cur)].map fun p => Value.ref p.1).toArray = (outs.map fun p => Value.ref p.1).toArray.push (.ref cb) by simp]; exact ho₁₀) ?_)
    exact ⟨fun b o n q => (sb₁₀.2 b fun z => n (.inl z)).trans (e09.keep b o (fun z => z.elim (fun y => by rw [y, hb] at q; cases q) fun y => n (.inr y)) q), e09.gens, e09.os⟩
end
end Dp
end
section
open PySem PySem.W PySem.Calls PyProof.Rows
namespace Dp
section
variable {prog : Program} {w : World} {K : Frag} {B : Heap} {A : Around} {E : Value → Shared → Prop} {s s' s₁ s₂ : Shared} {L a l : Addr} {m m' : Str → Option Value} {h h' : Heap} {env : Env}
set_option maxHeartbeats 1000000 in
theorem call_law_clauses {lst : Addr} {vs : List Value} {ns : List Int} {st sz many : Nat} {ts tz tm : Tok} {Rr : Result → Shared → Prop} (G : Bas w K B) (kf : KF K) (o : On B s.heap) (rm : Rm A 3)
    (hl : s.heap.IsList lst vs.toArray) (hi : IntsAre vs ns) (hz : vs.length ≤ 1000) (h1 : 1 ≤ sz) (hlB : ∃ o, B.get? lst = some o) (hmz : many ≤ 100)
    (hq : ∀ s' cl0 k0 (outs : List (Addr × List Int)), Eff No s s' → s.heap.get? cl0 = none → s'.heap.get? cl0 = some (listO (outs.map fun p => Value.ref p.1).toArray k0) → outs.length = many → (∀ q ∈ outs, s.heap.get? q.1 = none ∧ FinC sz q.2 ∧ ∃ oc, s'.heap.get? q.1 = some oc ∧ IntList oc q.2) → Rr (.ok (.ret (.ref cl0))) s') :
    codeAny (model prog w) A (.call (.ref 247) ⟨[.ref lst, .int st ts, .int many tm, .int sz tz], []⟩) Rr s := by
  obtain ⟨pm, ho⟩ := kf.fLC.at_
  refine call_fn (binds := [("script", .ref lst), ("start", .int st ts), ("many", .int many tm), ("size", .int sz tz)]) G o ho kf.fLC.code rm.room (BindsTo.of_eq rfl) (locs rfl) (fun h₁ L F hL hk => ?_)
  refine wpAny_execs_cons (asn (B := B) (List_ (args_nil (new_list (by rw [sizeLine_eq]; simp) fun s₁ cl0 hb hb' e₁ => ⟨_, Fr_no F e₁, fun s₂ F₂ e₂ => ?_⟩))))
  have M₂ : LcM (updS (fun x => List.lookup x ([("script", Value.ref lst), ("start", .int st ts), ("many", .int many tm), ("size", .int sz tz)] : List (Str × Value)).reverse) "clauses" (.ref cl0)) lst st sz ts tz cl0 := ⟨(updS_ne (by decide)).trans rfl, (updS_ne (by decide)).trans rfl, (updS_ne (by decide)).trans rfl, updS_self⟩
  have mm2 : updS (fun x => List.lookup x ([("script", Value.ref lst), ("start", .int st ts), ("many", .int many tm), ("size", .int sz tz)] : List (Str × Value)).reverse) "clauses" (.ref cl0) "many" = some (.int many tm) := (updS_ne (by decide)).trans rfl
  generalize updS (fun x => List.lookup x ([("script", Value.ref lst), ("start", .int st ts), ("many", .int many tm), ("size", .int sz tz)] : List (Str × Value)).reverse) "clauses" (.ref cl0) = m₂ at F₂ M₂ mm2
  have old : ∀ {c}, h₁.get? c = none → s.heap.get? c = none := fun {c} q => by
    cases q' : s.heap.get? c with
    | none => rfl
    | some ob => rw [hk c ob q'] at q; cases q
  have c0s : s.heap.get? cl0 = none := old hb
  have c0L : cl0 ≠ L := fun z => by obtain ⟨o, y⟩ := Fr_live F; rw [← z] at y; rw [show h₁.get? cl0 = none from hb] at y; cases y
  have c0B : B.get? cl0 = none := o.none c0s
  have lstL : lst ≠ L := fun z => by obtain ⟨oo, q, _⟩ := hl; rw [z, hL] at q; cases q
  have e02 : Eff No s s₂ := ((⟨fun b o n q => e₁.keep b o n (hk b o q), e₁.gens, e₁.os⟩ : Eff No s s₁)).new e₂ fun b z => z ▸ hL
  have cl2 : s₂.heap.get? cl0 = some (listO #[] 0) := e₂.keep _ _ c0L hb'
  refine wpAny_execs_cons (wpAny_For (Call_ (nmB G kf F₂ (PyProof.Rows.callWith_type1 ?_))))
  refine args_cons (ld F₂ mm2 (args_nil ?_))
  refine call_range1 fun s₃ r tr ur vr hr0 hr e₃ => ?_
  refine iter_rangeN hr ⟨by omega, by omega, by omega, by omega⟩ fun s₄ it T e₄ hit0 IT hT => ?_
  have e24 : Eff No s₂ s₄ := e₃.same e₄
  have e04 := e02.same e24
  rw [show ((many : Int) - 0).toNat = many by omega] at hT
  have hit2 : s₂.heap.get? it = none := e₃.none hit0
  have its : s.heap.get? it = none := e02.none hit2
  have itL : it ≠ L := fun z => by obtain ⟨o, y⟩ := Fr_live F₂; rw [← z, hit2] at y; cases y
  have it0 : it ≠ cl0 := fun z => by rw [← z, hit2] at cl2; cases cl2
  refine loop_iter (prog := prog) (w := w) (B := B) rm.deeper.hh IT (by simpa using Ne.symm itL) (by simp) (fun b hb => by rw [List.mem_singleton] at hb; subst hb; exact o.none its)
    (fun rem m' s' => ∃ (j : Nat) (outs : List (Addr × List Int)) (k0 : Nat), j ≤ many ∧ rem = upFrom (j : Int) (many - j) ∧ LcM m' lst st sz ts tz cl0 ∧ s'.heap.get? cl0 = some (listO (outs.map fun p => Value.ref p.1).toArray k0) ∧ outs.length = j ∧ (∀ q ∈ outs, s.heap.get? q.1 = none ∧ q.1 ≠ cl0 ∧ q.1 ≠ L ∧ q.1 ≠ it ∧ FinC sz q.2 ∧ ∃ oc, s'.heap.get? q.1 = some oc ∧ IntList oc q.2) ∧ Eff No s s')
    ⟨0, [], 0, Nat.zero_le _, rfl, M₂, e24.all cl2, rfl, (fun q h => nomatch h), e04⟩ (Fr_no F₂ e24) hT ?_ ?_
  · rintro y rem m₁ s₈ s₉ v' ⟨j, outs, k0, hj, hrem, M₈, c8, hlen, hout, e08⟩ ⟨tj, rfl⟩ F₉ e₉ hal
    obtain ⟨q, hq1⟩ : ∃ q, many - j = q + 1 := by
      cases z : many - j with
      | zero => rw [z] at hrem; cases hrem
      | succ q => exact ⟨q, rfl⟩
    rw [hq1, upFrom_succ] at hrem
    injection hrem with hy hrem
    subst hy
    have e09 : Eff No s s₉ := e08.new e₉ fun b z => by rcases z with rfl | rfl; exact its; exact hL
    have M₉ := M₈.upd (y := "k") (v := .int j tj) (by decide)
    have k9 : updS m₁ "k" (.int j tj) "k" = some (.int j tj) := updS_self
    replace F₉ : Fr B L s₉.heap (updS m₁ "k" (.int j tj)) := F₉
    have c9 := e₉.keep _ _ (fun z => z.elim (fun y => it0 y.symm) c0L) c8
    have live9 : ∀ {b}, b = cl0 ∨ b = L ∨ b = it → ∃ o, s₉.heap.get? b = some o := by
      rintro b (rfl | rfl | rfl)
      · exact ⟨_, c9⟩
      · exact Fr_live F₉
      · exact hal _ (by simp)
    refine lc_clause (outs := outs) G kf F₉ (rm.deeper.less (by omega)) M₉ k9 (hl.at fun o q => e09.all q) hi hz h1 hlB c9 (by omega) c0L c0B fun s' m' cb c k0' F' M' hcb hfc hoc hcl' e' => ?_
    have hcbs : s.heap.get? cb = none := e09.none hcb
    have ncb : ∀ {b}, (∃ o, s₉.heap.get? b = some o) → cb ≠ b := fun ⟨o, q⟩ z => by rw [← z, hcb] at q; cases q
    refine ⟨m', _, F', ⟨j + 1, outs ++ [(cb, c)], k0', by omega, ?_, M', hcl', by rw [List.length_append, hlen]; rfl, ?_, e09.new e' fun b z => by rcases z with rfl | rfl; exact c0s; exact hL⟩, e', ?_⟩
    · rw [hrem, show many - (j + 1) = q by omega]; rfl
    · intro q hq'
      rcases List.mem_append.mp hq' with z | z
      · obtain ⟨x1, x2, x3, x4, x5, oc, x6, x7⟩ := hout q z
        exact ⟨x1, x2, x3, x4, x5, oc, e'.keep _ _ (fun z => z.elim x2 x3) (e₉.keep _ _ (fun z => z.elim x4 x3) x6), x7⟩
      · rw [List.mem_singleton] at z; subst z
        obtain ⟨oc, y1, y2⟩ := hoc
        exact ⟨hcbs, ncb (live9 (.inl rfl)), ncb (live9 (.inr (.inl rfl))), ncb (live9 (.inr (.inr rfl))), hfc, oc, y1, y2⟩
    · rintro b (hb | hb) z
      · rw [List.mem_singleton] at hb; subst hb; exact z.elim it0 itL
      · cases hb
  · rintro m₁ s₈ s₉ ⟨j, outs, k0, hj, hrem, M₈, c8, hlen, hout, e08⟩ F₉ e₉
    have hjc : j = many := by
      cases z : many - j with
      | zero => omega
      | succ q => rw [z] at hrem; cases hrem
    subst hjc
    refine wpAny_execs_cons (wpAny_Return_some (ld F₉ M₈.clauses ?_))
    refine hq s₉ cl0 k0 outs (e08.new e₉ fun b z => z ▸ its) c0s (e₉.keep _ _ (fun z => it0 z.symm) c8) hlen fun q hq' => ?_
    obtain ⟨x1, x2, x3, x4, x5, oc, x6, x7⟩ := hout q hq'
    exact ⟨x1, x5, oc, e₉.keep _ _ (fun z => x4 z) x6, x7⟩
end
end Dp
end
section
open PySem PySem.W PySem.Calls PyProof.Rows
namespace Dp
section
variable {prog : Program} {w : World} {K : Frag} {B : Heap} {A : Around} {E : Value → Shared → Prop} {s s' s₁ s₂ : Shared} {L a l : Addr} {m m' : Str → Option Value} {h h' : Heap} {env : Env}
theorem call_fn1 {f cd : Addr} {st : Stmt} {name qual c0 : Str} {dV pm oc v : Value} {od : Option Addr} {osl : Array (Option Value)} {vals : List Value} {binds : List (Str × Value)} {R : Result → Shared → Prop}
    (G : Bas w K B) (o : On B s.heap) (ho : K.lookup f = some ⟨oc, od, .func (fdOf st name qual dV pm cd), osl⟩) (hcd : codeIn K (.ref cd) qual = true) (hroom : A.depth < recursionLimit)
    (hbind : bindArgs (fdOf st name qual dV pm cd) ⟨vals, []⟩ = pure binds) (hcells : ∀ n, cellsFrom n (dScope st).names [] = [(c0, n)])
    (hkind : ∀ x ∈ binds, (dScope st).names.lookup x.1 = some .local ∨ ((dScope st).names.lookup x.1 = some .cell ∧ x.1 = c0))
    (hcv : ∀ L, bindC (envX qual (dScope st) L f (.ref cd) [(c0, L + 1)]).kindOf binds (fun _ => none) c0 = some v)
    (h : ∀ h₁ tk L, Fr B L h₁ (bindL (envX qual (dScope st) L f (.ref cd) [(c0, L + 1)]).kindOf binds fun _ => none) → h₁.IsCell (L + 1) (some v) → s.heap.get? L = none → s.heap.get? (L + 1) = none → (∀ b o, s.heap.get? b = some o → h₁.get? b = some o) →
      wpAny (model prog w) (A.deeper (envX qual (dScope st) L f (.ref cd) [(c0, L + 1)])) (execs (dBody st) (envX qual (dScope st) L f (.ref cd) [(c0, L + 1)]))
        (fun f s' => R (.ok (.ret (match f with | .ret v => v | _ => .none))) s') (fun _ _ => False) { s with heap := h₁, toks := tk })
    (hco : (dScope st).isCoroutine = false := by rfl) (hgen : (dScope st).isGenerator = false := by rfl) (hk : (dScope st).kind = .function := by rfl) :
    codeAny (model prog w) A (.call (.ref f) ⟨vals, []⟩) R s := by
  have hin := G.in o
  have hL0 : s.heap.get? s.heap.objs.size = none := new_none
  have hL1 : s.heap.get? (s.heap.objs.size + 1) = none := by
    cases q : s.heap.get? (s.heap.objs.size + 1) with
    | none => rfl
    | some ob => exact absurd (Heap.lt_size q) (Nat.not_lt.mpr (Nat.le_succ _))
  refine codeAny_call_cells (fd := fdOf st name qual dV pm cd) (body := dBody st) (binds := binds) hroom (hin _ _ ho) rfl (G.nolimit o) (codeRec_of hin hcd) rfl hbind rfl (fun x hx => ?_) (fun s₁ X => ?_) hco hgen hk
  · rcases hkind x hx with z | ⟨z, rfl⟩
    · exact .inl z
    · refine .inr ⟨z, ?_⟩
      show ((cellsFrom (s.heap.objs.size + 1) (dScope st).names []).lookup x.1).isSome = true
      rw [hcells]; simp
  · have henv : callEnvC (fdOf st name qual dV pm cd) s.heap.objs.size f = envX qual (dScope st) s.heap.objs.size f (.ref cd) [(c0, s.heap.objs.size + 1)] := by
      show newEnv (dScope st) s.heap.objs.size _ (cellsFrom (s.heap.objs.size + 1) (dScope st).names []) _ _ _ _ _ = _
      rw [hcells]; rfl
    rw [henv] at X ⊢
    obtain ⟨h₁, tk, rfl, hk1⟩ := X.done
    have hc := X.cell c0 (s.heap.objs.size + 1) (by show ([(c0, s.heap.objs.size + 1)] : List (Str × Addr)).lookup c0 = _; simp)
    rw [hcv] at hc
    exact noexc (h h₁ tk s.heap.objs.size ⟨X.toInCall.ns, fun b o' q => hk1 b o' (o.keep b o' q), o.size⟩ hc hL0 hL1 hk1)
end
end Dp
end
section
open PySem PySem.W PySem.Calls PyProof.Rows
namespace Dp
def lrSt : Stmt := topDef "_law_rows"
abbrev lrEnv (L : Addr) : Env := envX "_law_rows" (dScope lrSt) L 252 (.ref 251) [(Str.ofString "size", L + 1)]
def retOf : Stmt → PySem.Expr | .Return (some e) _ => e | _ => .Name "" default
def lcElt : PySem.Expr → PySem.Expr | .ListComp e _ _ _ => e | _ => .Name "" default
def lrOuter : PySem.Expr := retOf (stAt (dBody lrSt) 0)
def lrSc1 : Scope := dcScope lrOuter
def lrSc2 : Scope := dcScope (lcElt lrOuter)
def rowN (size n : Nat) : List Bool := (List.range size).map fun k => decide (n / 2 ^ k % 2 = 1)
abbrev lrE1 (L C : Addr) : Env := cEnv lrSc1 [(Str.ofString "size", L + 1)] C (lrEnv L)
abbrev lrE2 (L C C2 : Addr) : Env := cEnv lrSc2 [(Str.ofString "n", C + 1)] C2 (lrE1 L C)
section
variable {prog : Program} {w : World} {K : Frag} {B : Heap} {A : Around} {E : Value → Shared → Prop} {s s' s₁ s₂ : Shared} {L a l C : Addr} {m m' : Str → Option Value} {h h' : Heap} {env : Env}
theorem Ev.nm {x : Str} {p : Pos} {v : Int} {t : Tok} (N : Nm env h x (.int v t)) : Ev prog w env h (.Name x p) v := by
  rintro A E s Q rfl hq
  exact N.name (hq s t rfl rfl rfl)
theorem Ev.pow {e f : PySem.Expr} {p : Pos} {i j : Int} (x : Ev prog w env h e i) (y : Ev prog w env h f j) (hj : 0 ≤ j) (hs : (Builtin.Int.intBits i : Int) * j ≤ 2 ^ 27) : Ev prog w env h (.BinOp e .Pow f p) (i ^ j.toNat) := by
  rintro A E s Q e0 hq
  exact wpAny_BinOp (x A E s _ e0 fun s1 t1 e1 g1 o1 => y A E s1 _ e1 fun s2 t2 e2 g2 o2 => PyProof.Rows.pow_int hj hs (hq _ _ e2 (g2.trans g1) (o2.trans o1)))
theorem Ev.bit {e f : PySem.Expr} {p1 p2 p3 p4 p5 p6 p7 : Pos} {k0 k1 k2 : Nat} {n k : Nat} {Q : Value → Shared → Prop} (x : Ev prog w env s.heap e n) (y : Ev prog w env s.heap f k) (hk : k ≤ 10) (hq : ∀ s', s'.heap = s.heap → s'.gens = s.gens → s'.os = s.os → Q (.bool (decide (n / 2 ^ k % 2 = 1))) s') :
    wpAny (model prog w) A (eval (.Compare (.BinOp (.BinOp e .FloorDiv (.BinOp (.Constant (.int 2) k0 p1) .Pow f p2) p3) .Mod (.Constant (.int 2) k1 p4) p5) [.Eq] [.Constant (.int 1) k2 p6] p7) env) Q E s := by
  have hb : (Builtin.Int.intBits 2 : Int) * (k : Int) ≤ 2 ^ 27 := by
    have : Builtin.Int.intBits 2 = 2 := by decide
    rw [this]; omega
  have h2 : ((2 : Int) ^ ((k : Int)).toNat) = ((2 ^ k : Nat) : Int) := by rw [Int.toNat_natCast]; push_cast; rfl
  have hpos : 0 < 2 ^ k := Nat.two_pow_pos k
  have hle : 2 ^ k ≤ 2 ^ 10 := Nat.pow_le_pow_right (by decide) hk
  have hd : (n : Int).fdiv ((2 : Int) ^ ((k : Int)).toNat) = ((n / 2 ^ k : Nat) : Int) := by rw [h2, Int.fdiv_eq_ediv_of_nonneg _ (by omega)]; rfl
  have hm : ((n / 2 ^ k : Nat) : Int).fmod 2 = ((n / 2 ^ k % 2 : Nat) : Int) := by rw [Int.fmod_eq_emod_of_nonneg _ (by omega)]; rfl
  refine wpAny_Compare1 ((((x.div (Ev.const.pow y (by omega) hb) (by rw [h2]; omega) (by rw [h2]; omega)).mod Ev.const (by decide)).to (j := ((n / 2 ^ k % 2 : Nat) : Int)) (by rw [hd, hm])) _ _ _ _ rfl fun s1 t1 e1 g1 o1 => Ev.const _ _ _ _ e1 fun s2 t2 e2 g2 o2 => PyProof.Rows.eq_int ?_)
  have he : (((n / 2 ^ k % 2 : Nat) : Int) == 1) = decide (n / 2 ^ k % 2 = 1) := by
    generalize n / 2 ^ k % 2 = q
    by_cases c : q = 1
    · rw [c]; rfl
    · rw [decide_eq_false c]; simp; omega
  rw [he]
  exact hq s2 e2 (g2.trans g1) (o2.trans o1)
theorem lr_inner {sz n : Nat} {t1 t2 : Tok} {a1 a2 a3 a4 a5 a6 a7 a8 a9 b1 b2 b3 b4 c1 : Pos} {k0 k1 k2 : Nat} {Q : Value → Shared → Prop} (G : Bas w K B) (kf : KF K) (o : On B s.heap) (hh : A.handled = none) (hs : s.heap.IsCell (L + 1) (some (.int sz t1))) (hn : s.heap.IsCell (C + 1) (some (.int n t2))) (hz : sz ≤ 4)
    (hq : ∀ s' b k, Eff No s s' → s.heap.get? b = none → s'.heap.get? b = some (listO ((rowN sz n).map Value.bool).toArray k) → Q (.ref b) s') :
    wpAny (model prog w) A (eval (.ListComp (.Compare (.BinOp (.BinOp (.Name "n" a1) .FloorDiv (.BinOp (.Constant (.int 2) k0 a2) .Pow (.Name "k" a3) a4) a5) .Mod (.Constant (.int 2) k1 a6) a7) [.Eq] [.Constant (.int 1) k2 a8] a9) [⟨.Name "k" b1, .Call (.Name "range" b2) [.Name "size" b3] [] b4, [], 0⟩] lrSc2 c1) (lrE1 L C)) Q E s := by
  rw [eval_ListComp]
  have h1 : closureFor lrSc2 (lrE1 L C) = pure [(Str.ofString "n", C + 1)] := by rfl
  refine lcomp (V := IsInt) hh h1 rfl (by decide) (by intro _; rfl) ?_
  refine Call_ (Nm.name (Nm.bui G kf o) (PyProof.Rows.callWith_type1 (args_cons (Nm.name (Nm.cell hs rfl) (args_nil ?_)))))
  refine call_range1 fun s₁ r tr ur vr hr0 hr e₁ => ?_
  refine iter_rangeN hr ⟨by omega, by omega, by omega, by omega⟩ fun s₂ it T e₂ hit IT hT => ?_
  rw [show ((sz : Int) - 0).toNat = sz by omega] at hT
  have e02 : Eff No s s₂ := e₁.same e₂
  refine ⟨it, [it], [], T, _, rfl, IT, hT, fun b C2 hb hC hbC s₃ e₃ hp3 hCe hbe => ?_⟩
  have e03 := e02.same e₃
  have hbn := e02.none hb
  have hCn := e02.none hC
  have hits : s.heap.get? it = none := e₁.none hit
  have hCit : C2 ≠ it := fun z => by obtain ⟨oo, q⟩ := IT.live hT it IT.mem; rw [← z, hC] at q; cases q
  refine ⟨fun r ys s' => ∃ j : Nat, j ≤ sz ∧ r = upFrom (j : Int) (sz - j) ∧ ys = ((List.range j).map fun k => decide (n / 2 ^ k % 2 = 1)).map Value.bool ∧ Eff No s s', ⟨0, Nat.zero_le _, rfl, rfl, e03⟩, ?_, ?_, by simp, by simp⟩
  · rintro y r ys s₅ s₆ v m' k ⟨j, hj, hr, rfl, e5⟩ ⟨tk, rfl⟩ e6 hC6 hlive hacc
    obtain ⟨q, hq1⟩ : ∃ q, sz - j = q + 1 := by
      cases z : sz - j with
      | zero => rw [z] at hr; cases hr
      | succ q => exact ⟨q, rfl⟩
    rw [hq1, upFrom_succ] at hr
    injection hr with hy hr
    subst hy
    have e6' : Eff No s s₆ := eff_new e5 e6 fun x z => by rw [z]; exact hits
    refine wpAny_assign_Name (wpAny_storeName_local (by rfl) hC6 (fun h₇ hn7 sb₇ => ?_) (by rfl))
    refine wpAny_tests_nil ?_
    rw [if_pos rfl]
    have e67 : Eff (fun x => x = C2) s₆ { s₆ with heap := h₇, toks := s₆.toks + 1 } := sb_eff sb₇ rfl
    generalize hs7 : ({ s₆ with heap := h₇, toks := s₆.toks + 1 } : Shared) = s₇ at e67
    have hn7' : s₇.heap.Ns C2 (fun z => if z = Str.ofString "k" then some (.int j tk) else m' z) := by subst hs7; exact hn7
    have e7 : Eff No s s₇ := eff_new e6' e67 fun x z => by rw [z]; exact hCn
    obtain ⟨oc, hn1, hn2⟩ := hn
    have hnc : s₇.heap.IsCell (C + 1) (some (.int n t2)) := ⟨oc, e7.all hn1, hn2⟩
    refine Ev.bit (n := n) (k := j) (Ev.nm (Nm.cell hnc rfl)) (Ev.nm (Nm.loc hn7' (if_pos rfl))) (by omega) fun s₈ q₈ g₈ o₈ => ?_
    have e78 : Eff No s₇ s₈ := ⟨fun b o _ q => by rw [q₈]; exact q, g₈, o₈⟩
    refine ⟨fun x => x = C2, _, ⟨fun c o n q => e78.all (e67.keep c o n q), e78.gens.trans e67.gens, e78.os.trans e67.os⟩, ?_, by rw [q₈]; exact hn7', ?_, fun s₉ e₉ => ⟨j + 1, by omega, ?_, ?_, ?_⟩⟩
    · rintro x (hx | hx | hx) z
      · rw [List.mem_singleton] at hx; exact hCit (z.symm.trans hx)
      · cases hx
      · exact hbC (hx.symm.trans z)
    · rw [List.length_map, List.length_map, List.length_range, sizeLine_eq]; omega
    · rw [hr, show sz - (j + 1) = q by omega]; rfl
    · rw [List.range_succ, List.map_append, List.map_append]; rfl
    · exact eff_new (e7.same e78) e₉ fun x z => by rw [z]; exact hbn
  · rintro ys s₅ s₆ k ⟨j, hj, hr, rfl, e5⟩ e6 hacc ⟨m', hm⟩
    have hjc : j = sz := by
      cases z : sz - j with
      | zero => omega
      | succ q => rw [z] at hr; cases hr
    subst hjc
    have e6' : Eff No s s₆ := eff_new e5 e6 fun b z => by rw [z]; exact hits
    refine post_none hm fun s₇ e₇ => ?_
    exact hq s₇ b k (eff_new e6' e₇ fun x z => by rw [z]; exact hCn) hbn (e₇.keep _ _ hbC hacc)
end
end Dp
end
section
open PySem PySem.W PySem.Calls PyProof.Rows
namespace Dp
section
variable {prog : Program} {w : World} {K : Frag} {B : Heap} {A : Around} {E : Value → Shared → Prop} {s s' s₁ s₂ : Shared} {L a l C : Addr} {m m' : Str → Option Value} {h h' : Heap} {env : Env}
theorem IsCell.eff {P : Addr → Prop} {c : Addr} {v : Option Value} (x : s.heap.IsCell c v) (e : Eff P s s') (n : ¬ P c) : s'.heap.IsCell c v := let ⟨o, q, r⟩ := x; ⟨o, e.keep c o n q, r⟩
theorem call_law_rows {sz : Nat} {t : Tok} {Rr : Result → Shared → Prop} (G : Bas w K B) (kf : KF K) (o : On B s.heap) (rm : Rm A 2) (hz : sz ≤ 4)
    (hq : ∀ s' b k (as : List Addr), Eff No s s' → s.heap.get? b = none → s'.heap.get? b = some (listO (as.map Value.ref).toArray k) → F2 (fun a n => s.heap.get? a = none ∧ a ≠ b ∧ ∃ k, s'.heap.get? a = some (listO ((rowN sz n).map Value.bool).toArray k)) as (List.range (2 ^ sz)) → Rr (.ok (.ret (.ref b))) s') :
    codeAny (model prog w) A (.call (.ref 252) ⟨[.int sz t], []⟩) Rr s := by
  obtain ⟨pm, ho⟩ := kf.fLR.at_
  refine call_fn1 (c0 := "size") (v := .int sz t) (binds := [("size", .int sz t)]) G o ho kf.fLR.code rm.room rfl (fun n => rfl) (fun x hx => ?_) (fun L => rfl) (fun h₁ tk L F hc hL0 hL1 hk => ?_)
  · rw [List.mem_singleton] at hx; subst hx; exact .inr ⟨rfl, rfl⟩
  have hz16 : 2 ^ sz ≤ 16 := Nat.le_trans (Nat.pow_le_pow_right (by decide) hz) (by decide)
  obtain ⟨N, hN⟩ : ∃ N : Nat, 2 ^ sz = N := ⟨_, rfl⟩
  rw [hN] at hq hz16
  have hb2 : (Builtin.Int.intBits 2 : Int) * (sz : Int) ≤ 2 ^ 27 := by
    have : Builtin.Int.intBits 2 = 2 := by decide
    rw [this]; omega
  refine wpAny_execs_cons (wpAny_Return_some ?_)
  rw [eval_ListComp]
  have h1 : closureFor lrSc1 (lrEnv L) = pure [(Str.ofString "size", L + 1)] := by rfl
  refine lcomp (V := IsInt) rm.deeper.hh h1 rfl (by decide) (by intro _; rfl) ?_
  refine Call_ (Nm.name (Nm.bui G kf (frOn F)) (PyProof.Rows.callWith_type1 (args_cons ?_)))
  refine (Ev.const.pow (Ev.nm (Nm.cell hc rfl)) (by omega) hb2 |>.to (j := (N : Int)) (by rw [Int.toNat_natCast, ← hN]; push_cast; rfl)) _ _ _ _ rfl fun s₀ t₀ q₀ g₀ o₀ => args_nil ?_
  refine call_range1 fun s₁ r tr ur vr hr0 hr e₁ => ?_
  refine iter_rangeN hr ⟨by omega, by omega, by omega, by omega⟩ fun s₂ it T e₂ hit IT hT => ?_
  rw [show ((N : Int) - 0).toNat = N by omega] at hT
  have e00 : Eff No s s₀ := ⟨fun b o _ q => by rw [q₀]; exact hk b o q, g₀, o₀⟩
  have e02 : Eff No s s₂ := (e00.same e₁).same e₂
  have hc2 : s₂.heap.IsCell (L + 1) (some (.int sz t)) := IsCell.eff (IsCell.eff (s := s₀) (by rw [q₀]; exact hc) e₁ id) e₂ id
  refine ⟨it, [it], [], T, _, rfl, IT, hT, fun b C hb hC hbC s₃ e₃ hp3 hCe hbe => ?_⟩
  have e03 := e02.same e₃
  have hbn := e02.none hb
  have hCn := e02.none hC
  have hits : s.heap.get? it = none := (e00.same e₁).none hit
  have hCit : C ≠ it := fun z => by obtain ⟨oo, q⟩ := IT.live hT it IT.mem; rw [← z, hC] at q; cases q
  have hbit : b ≠ it := fun z => by obtain ⟨oo, q⟩ := IT.live hT it IT.mem; rw [← z, hb] at q; cases q
  have hLC : ∀ {c}, (∃ o, s₂.heap.get? c = some o) → c ≠ b ∧ c ≠ C := fun ⟨o, q⟩ => ⟨fun z => (by rw [z, hb] at q; cases q), fun z => (by rw [z, hC] at q; cases q)⟩
  have hC1n : s₂.heap.get? (C + 1) = none := by
    rw [hCe]
    cases q : s₂.heap.get? (s₂.heap.objs.size + 1 + 1) with
    | none => rfl
    | some ob => exact absurd (Heap.lt_size q) (Nat.not_lt.mpr (by show s₂.heap.objs.size ≤ s₂.heap.objs.size + 1 + 1; omega))
  have hC1s := e02.none hC1n
  have hcell3 : s₃.heap.IsCell (C + 1) none := by
    rw [hp3]
    show (((s₂.heap.push (listO #[] 0)).push dict0).push cell0).IsCell (C + 1) none
    refine ⟨cell0, ?_, rfl⟩
    have hs : ((s₂.heap.push (listO #[] 0)).push dict0).objs.size = C + 1 := by rw [Heap.size_push, Heap.size_push, hCe]
    rw [← hs]; exact Heap.get?_push_size _ rfl
  have hC1it : C + 1 ≠ it := fun z => by obtain ⟨oo, q⟩ := IT.live hT it IT.mem; rw [← z, hC1n] at q; cases q
  have hC1b : C + 1 ≠ b := fun z => by rw [hCe, hbe] at z; exact absurd z (Nat.ne_of_gt (Nat.lt_succ_of_lt (Nat.lt_succ_self _)))
  have hC1C : C + 1 ≠ C := Nat.succ_ne_self C
  have hL1C : L + 1 ≠ C + 1 := fun z => by obtain ⟨oo, q, _⟩ := hc2; rw [z, hC1n] at q; cases q
  have hL1 : L + 1 ≠ b ∧ L + 1 ≠ C := hLC (let ⟨oo, q, _⟩ := hc2; ⟨oo, q⟩)
  have hL1it : L + 1 ≠ it := fun z => by
    obtain ⟨oo, q, _⟩ := hc
    have hq1 : s₁.heap.get? (L + 1) = some oo := e₁.all (by rw [q₀]; exact q)
    rw [z, hit] at hq1; cases hq1
  refine ⟨fun r ys s' => ∃ (j : Nat) (as : List Addr), j ≤ N ∧ r = upFrom (j : Int) (N - j) ∧ ys = as.map Value.ref ∧ F2 (fun a n => s.heap.get? a = none ∧ a ≠ b ∧ a ≠ C ∧ a ≠ C + 1 ∧ a ≠ it ∧ ∃ k, s'.heap.get? a = some (listO ((rowN sz n).map Value.bool).toArray k)) as (List.range j) ∧ (∃ v, s'.heap.IsCell (C + 1) v) ∧ s'.heap.IsCell (L + 1) (some (.int sz t)) ∧ Eff No s s', ⟨0, [], Nat.zero_le _, rfl, rfl, .nil, ⟨_, hcell3⟩, IsCell.eff hc2 e₃ id, e03⟩, ?_, ?_, by simp, by simp⟩
  · rintro y r ys s₅ s₆ v m' k ⟨j, as, hj, hr, rfl, hf, ⟨cv, hcv⟩, hls, e5⟩ ⟨tk, rfl⟩ e6 hC6 hlive hacc
    obtain ⟨q, hq1⟩ : ∃ q, N - j = q + 1 := by
      cases z : N - j with
      | zero => rw [z] at hr; cases hr
      | succ q => exact ⟨q, rfl⟩
    rw [hq1, upFrom_succ] at hr
    injection hr with hy hr
    subst hy
    have e6' : Eff No s s₆ := eff_new e5 e6 fun x z => by rw [z]; exact hits
    have hcv6 : s₆.heap.IsCell (C + 1) cv := IsCell.eff hcv e6 hC1it
    refine wpAny_assign_Name (wpAny_storeName_cell (env := lrE1 L C) (c := C + 1) rfl (by rfl) rfl hcv6 fun h₇ hn7 sb₇ => ?_)
    refine wpAny_tests_nil ?_
    rw [if_pos rfl]
    have e67 : Eff (fun x => x = C + 1) s₆ { s₆ with heap := h₇ } := ⟨fun b o n q => (sb₇.2 b n).trans q, rfl, rfl⟩
    generalize hs7 : ({ s₆ with heap := h₇ } : Shared) = s₇ at e67
    have hn7' : s₇.heap.IsCell (C + 1) (some (.int j tk)) := by subst hs7; exact hn7
    have e7 : Eff No s s₇ := eff_new e6' e67 fun x z => by rw [z]; exact hC1s
    have hl7 : s₇.heap.IsCell (L + 1) (some (.int sz t)) := IsCell.eff (IsCell.eff hls e6 hL1it) e67 hL1C
    have hO7 : On B s₇.heap := ⟨fun b ob q => e7.all (o.keep b ob q), by
      have h1 : s₆.heap.objs.size = s₇.heap.objs.size := by subst hs7; exact sb₇.1.symm
      obtain ⟨oo, q⟩ : ∃ o, s₇.heap.get? C = some o := by obtain ⟨oo, _, _, q, _⟩ := hC6; exact ⟨oo, e67.keep _ _ (fun z => hC1C z.symm) q⟩
      have h2 := Heap.lt_size q
      have h3 : s₂.heap.objs.size ≤ s₇.heap.objs.size := by rw [hCe] at h2; exact Nat.le_of_lt (Nat.lt_of_succ_lt h2)
      have h4 : L + 1 < s₂.heap.objs.size := by obtain ⟨oo, q, _⟩ := hc2; exact Heap.lt_size q
      have h5 := F.above
      exact Nat.le_trans h5 (Nat.le_trans (Nat.le_of_lt (Nat.lt_of_succ_lt h4)) h3)⟩
    refine lr_inner G kf hO7 rm.deeper.hh hl7 hn7' hz fun s₈ rb k₈ e₈ hr0' hr1' => ?_
    have liveC : ∃ o, s₇.heap.get? C = some o := by obtain ⟨oo, _, _, q, _⟩ := hC6; exact ⟨oo, e67.keep _ _ (fun z => hC1C z.symm) q⟩
    have liveb : ∃ o, s₇.heap.get? b = some o := ⟨_, e67.keep _ _ (fun z => hC1b z.symm) hacc⟩
    have liveit : ∃ o, s₇.heap.get? it = some o := by obtain ⟨oo, q⟩ := hlive it (by simp); exact ⟨oo, e67.keep _ _ (fun z => hC1it z.symm) q⟩
    have liveC1 : ∃ o, s₇.heap.get? (C + 1) = some o := IsCell.live hn7'
    have ne : ∀ {c}, (∃ o, s₇.heap.get? c = some o) → rb ≠ c := fun ⟨oo, q⟩ z => by rw [← z, hr0'] at q; cases q
    refine ⟨fun x => x = C + 1, _, ⟨fun c o n q => e₈.all (e67.keep c o n q), e₈.gens.trans e67.gens, e₈.os.trans e67.os⟩, ?_, hC6.at' fun o q => e₈.all (e67.keep _ _ (fun z => hC1C z.symm) q), ?_, fun s₉ e₉ => ⟨j + 1, as ++ [rb], by omega, ?_, by rw [List.map_append]; rfl, ?_, ⟨_, IsCell.eff (IsCell.eff hn7' e₈ id) e₉ hC1b⟩, IsCell.eff (IsCell.eff hl7 e₈ id) e₉ hL1.1, ?_⟩⟩
    · rintro x (hx | hx | hx) z
      · rw [List.mem_singleton] at hx; exact hC1it (z.symm.trans hx)
      · cases hx
      · exact hC1b (z.symm.trans hx)
    · have := hf.length
      rw [List.length_range] at this
      rw [List.length_map, sizeLine_eq]; omega
    · rw [hr, show N - (j + 1) = q by omega]; rfl
    · rw [List.range_succ]
      refine F2.append (hf.imp fun a n ⟨x1, x2, x3, x4, x5, k, x6⟩ => ⟨x1, x2, x3, x4, x5, k, e₉.keep _ _ x2 (e₈.all (e67.keep _ _ x4 (e6.keep _ _ x5 x6)))⟩) (.cons ⟨e7.none hr0', ne liveb, ne liveC, ne liveC1, ne liveit, k₈, e₉.keep _ _ (ne liveb) hr1'⟩ .nil)
    · exact eff_new (e7.same e₈) e₉ fun x z => by rw [z]; exact hbn
  · rintro ys s₅ s₆ k ⟨j, as, hj, hr, rfl, hf, ⟨cv, hcv⟩, hls, e5⟩ e6 hacc ⟨m', hm⟩
    have hjc : j = N := by
      cases z : N - j with
      | zero => omega
      | succ q => rw [z] at hr; cases hr
    subst hjc
    have e6' : Eff No s s₆ := eff_new e5 e6 fun b z => by rw [z]; exact hits
    refine post_none hm fun s₇ e₇ => ?_
    exact hq s₇ b k as (eff_new e6' e₇ fun x z => by rw [z]; exact hCn) hbn (e₇.keep _ _ hbC hacc) (hf.imp fun a n ⟨x1, x2, x3, x4, x5, k, x6⟩ => ⟨x1, x2, k, e₇.keep _ _ x3 (e6.keep _ _ x5 x6)⟩)
end
end Dp
end
section
open PySem PySem.W PySem.Calls PyProof.Rows
namespace Dp
def lhSt : Stmt := topDef "_law_holds"
abbrev lhEnv (L : Addr) : Env := envX "_law_holds" (dScope lhSt) L 257 (.ref 256) [(Str.ofString "row", L + 1)]
def cmpL : PySem.Expr → PySem.Expr | .Compare l _ _ _ => l | _ => .Name "" default
def lcGen : PySem.Expr → List Comprehension | .ListComp _ g _ _ => g | _ => []
def lhOuter : PySem.Expr := cmpL (retOf (stAt (dBody lhSt) 0))
def lhTest : PySem.Expr := match lcGen lhOuter with | [g] => (match g.ifs with | [t] => t | _ => .Name "" default) | _ => .Name "" default
def lhSc1 : Scope := dcScope lhOuter
def lhSc2 : Scope := dcScope (cmpL lhTest)
abbrev lhE1 (L C : Addr) : Env := cEnv lhSc1 [(Str.ofString "row", L + 1)] C (lhEnv L)
abbrev lhE2 (L C C2 : Addr) : Env := cEnv lhSc2 [(Str.ofString "row", L + 1)] C2 (lhE1 L C)
section
variable {prog : Program} {w : World} {K : Frag} {B : Heap} {A : Around} {E : Value → Shared → Prop} {s s' s₁ s₂ : Shared} {L a l C : Addr} {m m' mF : Str → Option Value} {h h' : Heap} {env : Env}
theorem lh_inner {ra ca : Addr} {ρ : List Bool} {cl : List Int} {vs : List Value} {kr : Nat} {a1 a2 a3 a4 a5 a6 a7 a8 a9 b1 b2 b3 b4 b5 c1 : Pos} {k0 k1 : Nat} {Q : Value → Shared → Prop} (G : Bas w K B) (kf : KF K) (F : Fr B L s.heap mF) (hh : A.handled = none)
    (hc : s.heap.IsCell (L + 1) (some (.ref ra))) (hr : s.heap.get? ra = some (listO (ρ.map Value.bool).toArray kr)) (hm : s.heap.Ns C m) (hmc : m "clause" = some (.ref ca)) (hca : s.heap.IsList ca vs.toArray) (hi : IntsAre vs cl) (hl : ∀ x ∈ cl, IsLit ρ.length x) (hz : ρ.length ≤ 1000) (hcz : cl.length ≤ 1000)
    (hq : ∀ s' b k (ys : List Value), Eff No s s' → s.heap.get? b = none → s'.heap.get? b = some (listO ys.toArray k) → (ys = [] ↔ ∀ x ∈ cl, ¬ tr ρ x) → ys.length ≤ 1000 → Q (.ref b) s') :
    wpAny (model prog w) A (eval (.ListComp (.Name "one" a1) [⟨.Name "one" a2, .Name "clause" a3, [.Compare (.Subscript (.Name "row" a4) (.BinOp (.Call (.Name "abs" a5) [.Name "one" a6] [] a7) .Sub (.Constant (.int 1) k0 a8) a9) b1) [.Eq] [.Compare (.Name "one" b2) [.Gt] [.Constant (.int 0) k1 b3] b4] b5], 0⟩] lhSc2 c1) (lhE1 L C)) Q E s := by
  rw [eval_ListComp]
  have h1 : closureFor lhSc2 (lhE1 L C) = pure [(Str.ofString "row", L + 1)] := by rfl
  refine lcomp (V := IsInt) hh h1 rfl (by decide) (by intro _; rfl) ?_
  refine Nm.name (Nm.loc hm hmc) ?_
  refine iter_list hca (ints_f2 hi) fun s₂ it T e₂ hit IT hT => ?_
  have hcl : ca ≠ it := fun z => by obtain ⟨oo, q, _⟩ := hca; rw [z] at q; rw [hit] at q; cases q
  refine ⟨it, [it], [ca], T, cl, rfl, IT, hT, fun b C2 hb hC hbC s₃ e₃ hp3 hCe hbe => ?_⟩
  have e03 := e₂.same e₃
  have hbn := e₂.none hb
  have hCn := e₂.none hC
  have hCit : C2 ≠ it := fun z => by obtain ⟨oo, q⟩ := IT.live hT it IT.mem; rw [← z, hC] at q; cases q
  have lca : ∃ o, s₂.heap.get? ca = some o := by obtain ⟨oo, q, _⟩ := hca; exact ⟨oo, e₂.all q⟩
  have hcab : ca ≠ b := fun z => by obtain ⟨oo, q⟩ := lca; rw [z, hb] at q; cases q
  have hcaC : ca ≠ C2 := fun z => by obtain ⟨oo, q⟩ := lca; rw [z, hC] at q; cases q
  refine ⟨fun r ys s' => ∃ done : List Int, done ++ r = cl ∧ (ys = [] ↔ ∀ x ∈ done, ¬ tr ρ x) ∧ ys.length ≤ done.length ∧ Eff No s s', ⟨[], rfl, by simp, Nat.le_refl _, e03⟩, ?_, ?_, by simpa using Ne.symm hcaC, by simpa using Ne.symm hcab⟩
  · rintro y r ys s₅ s₆ v m' k ⟨done, hdone, hys, hyl, e5⟩ ⟨tk, rfl⟩ e6 hC6 hlive hacc
    have e6' : Eff No s s₆ := eff_new e5 e6 fun x z => by rw [z]; exact hit
    refine wpAny_assign_Name (wpAny_storeName_local (by rfl) hC6 (fun h₇ hn7 sb₇ => ?_) (by rfl))
    have e67 : Eff (fun x => x = C2) s₆ { s₆ with heap := h₇, toks := s₆.toks + 1 } := sb_eff sb₇ rfl
    generalize hs7 : ({ s₆ with heap := h₇, toks := s₆.toks + 1 } : Shared) = s₇ at e67
    have hn7' : s₇.heap.Ns C2 (fun z => if z = Str.ofString "one" then some (.int y tk) else m' z) := by subst hs7; exact hn7
    have e7 : Eff No s s₇ := eff_new e6' e67 fun x z => by rw [z]; exact hCn
    have hO7 : On B s₇.heap := (frOn (Fr_no F e7))
    obtain ⟨oc, hc1, hc2⟩ := hc
    have hc7 : s₇.heap.IsCell (L + 1) (some (.ref ra)) := ⟨oc, e7.all hc1, hc2⟩
    have hr7 := e7.all hr
    have hy : IsLit ρ.length y := hl y (by rw [← hdone]; simp)
    have hny : ∀ {h : Heap}, h = s₇.heap → Nm (lhE2 L C C2) h "one" (.int y tk) := fun e => by rw [e]; exact Nm.loc hn7' (if_pos rfl)
    have hny' := @hny s₇.heap rfl
    have hlt : y.natAbs - 1 < ρ.length := by have := hy.1; have := hy.2; omega
    have hgo : ρ[y.natAbs - 1]? = some (ρ.getD (y.natAbs - 1) false) := by rw [List.getD_eq_getElem?_getD, List.getElem?_eq_getElem hlt]; rfl
    refine wpAny_tests_one (wpAny_isTrue_Compare1 (Subscript_ (Nm.name (s := s₇) (Nm.cell hc7 rfl) (wpAny_BinOp (Call_ (Nm.name (s := s₇) (Nm.bui G kf hO7) (PyProof.Rows.callWith_builtin1 (args_cons (Nm.name (s := s₇) hny' (args_nil (call_abs_int fun u tk2 => ?_)))))))))))
    have habs : (if y < 0 then -y else y) = (y.natAbs : Int) := by split <;> omega
    rw [habs]
    refine wpAny_Constant_int (PyProof.Rows.sub_int ?_)
    rw [show ((y.natAbs : Int) - 1) = ((y.natAbs - 1 : Nat) : Int) by have := hy.1; omega]
    refine itemList (s := ⟨s₇.heap, s₇.gens, s₇.drawn, _, s₇.os⟩) (vs := ρ.map Value.bool) (v := .bool (ρ.getD (y.natAbs - 1) false)) (listO_is hr7) (by rw [List.getElem?_map, hgo]; rfl) (by rw [List.length_map, sizeLine_eq]; omega) ?_
    refine wpAny_Compare1 (Nm.name (s := ⟨s₇.heap, s₇.gens, s₇.drawn, _, s₇.os⟩) hny' (wpAny_Constant_int (PyProof.Rows.gt_int (PyProof.Rows.eq_bool (wpAny_truthy_bool ?_)))))
    have hsafe : ∀ x, x ∈ [it] ∨ x ∈ [ca] ∨ x = b → ¬ x = C2 := by
      rintro x (hx | hx | hx) z
      · rw [List.mem_singleton] at hx; exact hCit (z.symm.trans hx)
      · rw [List.mem_singleton] at hx; exact hcaC (hx.symm.trans z)
      · exact hbC (hx.symm.trans z)
    have hdl : done.length + 1 ≤ cl.length := by rw [← hdone]; simp
    have htr : tr ρ y ↔ (ρ.getD (y.natAbs - 1) false == decide (0 < y)) = true := by unfold tr; rw [beq_iff_eq]
    by_cases c : (ρ.getD (y.natAbs - 1) false == decide (0 < y)) = true
    · rw [if_pos c]
      refine Nm.name (s := ⟨s₇.heap, s₇.gens, s₇.drawn, _, s₇.os⟩) hny' ⟨fun x => x = C2, _, ⟨e67.keep, e67.gens, e67.os⟩, hsafe, hn7', by rw [sizeLine_eq]; omega, fun s₅' e₅' => ⟨done ++ [y], by rw [List.append_assoc]; exact hdone, ⟨fun z => by simp at z, fun z => absurd (htr.mpr c) (z y (by simp))⟩, by simp; omega, eff_new e7 ⟨e₅'.keep, e₅'.gens, e₅'.os⟩ fun x z => by rw [z]; exact hbn⟩⟩
    · rw [if_neg c]
      refine ⟨fun x => x = C2, _, ⟨e67.keep, e67.gens, e67.os⟩, hsafe, hn7', done ++ [y], by rw [List.append_assoc]; exact hdone, hys.trans ⟨fun z x hx => ?_, fun z x hx => z x (by simp [hx])⟩, by simp; omega, ⟨e7.keep, e7.gens, e7.os⟩⟩
      rcases List.mem_append.mp hx with q | q
      · exact z x q
      · rw [List.mem_singleton] at q; subst q; exact fun w => c (htr.mp w)
  · rintro ys s₅ s₆ k ⟨done, hdone, hys, hyl, e5⟩ e6 hacc ⟨m', hm'⟩
    rw [List.append_nil] at hdone; subst hdone
    have e6' : Eff No s s₆ := eff_new e5 e6 fun b z => by rw [z]; exact hit
    refine post_none hm' fun s₇ e₇ => ?_
    exact hq s₇ b k ys (eff_new e6' e₇ fun x z => by rw [z]; exact hCn) hbn (e₇.keep _ _ hbC hacc) hys (by omega)
end
end Dp
end
section
open PySem PySem.W PySem.Calls PyProof.Rows
namespace Dp
section
variable {prog : Program} {w : World} {K : Frag} {B : Heap} {A : Around} {E : Value → Shared → Prop} {s s' s₁ s₂ : Shared} {L a l C : Addr} {m m' mF : Str → Option Value} {h h' : Heap} {env : Env}
theorem eq_empty {b c : Addr} {ys : List Value} {k k' : Nat} {Q : Value → Shared → Prop} (hb : s.heap.get? b = some (listO ys.toArray k)) (hc : s.heap.get? c = some (listO #[] k')) (hu : A.units < cLine) (hq : Q (.bool (decide (ys = []))) s) : wpAny (model prog w) A (compareOp .Eq (.ref b) (.ref c)) Q E s := by
  cases ys with
  | nil =>
    refine SeqAt.eq_listAt (e := fun _ => true) (listO_is hb) (listO_is hc) rfl hu (fun j h1 h2 => absurd h1 (by simp)) ?_
    rw [List.all_eq_true.mpr (fun _ _ => rfl)]
    rwa [decide_eq_true rfl] at hq
  | cons y r =>
    refine SeqAt.eq_list_lengthsAt (listO_is hb) (listO_is hc) (by simp) hu ?_
    rwa [decide_eq_false (by simp)] at hq
open Classical in
noncomputable def lawB (outs : List (Addr × List Int)) (ρ : List Bool) : Bool := decide (∀ p ∈ outs, ∃ x ∈ p.2, tr ρ x)
open Classical in
theorem lawB_iff {outs : List (Addr × List Int)} {ρ : List Bool} : lawB outs ρ = true ↔ ∀ p ∈ outs, ∃ x ∈ p.2, tr ρ x := decide_eq_true_iff
theorem call_law_holds {cl0 ra : Addr} {outs : List (Addr × List Int)} {ρ : List Bool} {k0 kr : Nat} {Rr : Result → Shared → Prop} (G : Bas w K B) (kf : KF K) (o : On B s.heap) (rm : Rm A 2)
    (hl : s.heap.get? cl0 = some (listO (outs.map fun p => Value.ref p.1).toArray k0)) (hr : s.heap.get? ra = some (listO (ρ.map Value.bool).toArray kr)) (hout : ∀ p ∈ outs, (∀ x ∈ p.2, IsLit ρ.length x) ∧ p.2.length ≤ 100 ∧ ∃ oc, s.heap.get? p.1 = some oc ∧ IntList oc p.2) (hz : outs.length ≤ 100) (hzr : ρ.length ≤ 100)
    (hq : ∀ s', Eff No s s' → Rr (.ok (.ret (.bool (lawB outs ρ)))) s') :
    codeAny (model prog w) A (.call (.ref 257) ⟨[.ref cl0, .ref ra], []⟩) Rr s := by
  obtain ⟨pm, ho⟩ := kf.fLH.at_
  refine call_fn1 (c0 := "row") (v := .ref ra) (binds := [("clauses", .ref cl0), ("row", .ref ra)]) G o ho kf.fLH.code rm.room rfl (fun n => rfl) (fun x hx => ?_) (fun L => rfl) (fun h₁ tk L F hc hL0 hL1 hk => ?_)
  · rcases List.mem_cons.mp hx with rfl | hx
    · exact .inl rfl
    · rw [List.mem_singleton] at hx; subst hx; exact .inr ⟨rfl, rfl⟩
  have hu : (A.deeper (lhEnv L)).units < cLine := by have := rm.un; show A.units + 3 < _; omega
  refine wpAny_execs_cons (wpAny_Return_some (wpAny_Compare1 ?_))
  rw [eval_ListComp]
  have h1 : closureFor lhSc1 (lhEnv L) = pure [(Str.ofString "row", L + 1)] := by rfl
  refine lcomp (V := fun (p : Addr × List Int) v => v = .ref p.1) rm.deeper.hh h1 rfl (by decide) (by intro _; rfl) ?_
  refine Nm.name (s := ⟨h₁, s.gens, s.drawn, _, s.os⟩) (Nm.loc F.ns rfl) ?_
  refine iter_list (s := ⟨h₁, s.gens, s.drawn, _, s.os⟩) (V := fun (p : Addr × List Int) v => v = .ref p.1) (xs := outs) (listO_is (hk _ _ hl)) (f2_map _ _) fun s₂ it T e₂ hit IT hT => ?_
  have e02 : Eff No s s₂ := ⟨fun b o n q => e₂.keep b o n (hk b o q), e₂.gens, e₂.os⟩
  refine ⟨it, [it], [cl0], T, outs, rfl, IT, hT, fun b C hb hC hbC s₃ e₃ hp3 hCe hbe => ?_⟩
  have e03 := e02.same e₃
  have hbn := e02.none hb
  have hCn := e02.none hC
  have hit' : h₁.get? it = none := hit
  have hits : s.heap.get? it = none := by
    cases q : s.heap.get? it with
    | none => rfl
    | some ob => rw [hk _ _ q] at hit'; cases hit'
  have hCit : C ≠ it := fun z => by obtain ⟨oo, q⟩ := IT.live hT it IT.mem; rw [← z, hC] at q; cases q
  have hlive0 : ∃ o, s₂.heap.get? cl0 = some o := ⟨_, e02.all hl⟩
  have h0b : cl0 ≠ b := fun z => by obtain ⟨oo, q⟩ := hlive0; rw [z, hb] at q; cases q
  have h0C : cl0 ≠ C := fun z => by obtain ⟨oo, q⟩ := hlive0; rw [z, hC] at q; cases q
  have F₃ : Fr B L s₃.heap _ := Fr_no (Fr_no (s := ⟨h₁, s.gens, s.drawn, tk, s.os⟩) F ⟨e₂.keep, e₂.gens, e₂.os⟩) e₃
  refine ⟨fun r ys s' => ∃ done : List (Addr × List Int), done ++ r = outs ∧ (ys = [] ↔ ∀ p ∈ done, ∃ x ∈ p.2, tr ρ x) ∧ ys.length ≤ done.length ∧ Eff (fun x => x = it ∨ x = C ∨ x = b) s₃ s', ⟨[], rfl, by simp, Nat.le_refl _, ⟨fun b o n q => q, rfl, rfl⟩⟩, ?_, ?_, by simpa using Ne.symm h0C, by simpa using Ne.symm h0b⟩
  · rintro y r ys s₅ s₆ v m' k ⟨done, hdone, hys, hyl, e5⟩ rfl e6 hC6 hlive hacc
    have e6' : Eff (fun x => x = it ∨ x = C ∨ x = b) s₃ s₆ := e5.same (e6.sub fun b z => .inl z)
    refine wpAny_assign_Name (wpAny_storeName_local (by rfl) hC6 (fun h₇ hn7 sb₇ => ?_) (by rfl))
    have e67 : Eff (fun x => x = C) s₆ { s₆ with heap := h₇, toks := s₆.toks + 1 } := sb_eff sb₇ rfl
    generalize hs7 : ({ s₆ with heap := h₇, toks := s₆.toks + 1 } : Shared) = s₇ at e67
    have hn7' : s₇.heap.Ns C (fun z => if z = Str.ofString "clause" then some (.ref y.1) else m' z) := by subst hs7; exact hn7
    have e7 : Eff (fun x => x = it ∨ x = C ∨ x = b) s₃ s₇ := e6'.same (e67.sub fun b z => .inr (.inl z))
    have fr3 : ∀ c, c = it ∨ c = C ∨ c = b → s.heap.get? c = none := by
      rintro c (rfl | rfl | rfl)
      · exact hits
      · exact hCn
      · exact hbn
    have e07 : Eff No s s₇ := e03.new e7 fr3
    have itL : it ≠ L := fun z => by obtain ⟨oo, q⟩ := Fr_live F; rw [← z, hit'] at q; cases q
    have CL' : C ≠ L := fun z => by obtain ⟨oo, q⟩ := Fr_live (Fr_no (s := ⟨h₁, s.gens, s.drawn, tk, s.os⟩) F ⟨e₂.keep, e₂.gens, e₂.os⟩); rw [← z, hC] at q; cases q
    have bL' : b ≠ L := fun z => by obtain ⟨oo, q⟩ := Fr_live (Fr_no (s := ⟨h₁, s.gens, s.drawn, tk, s.os⟩) F ⟨e₂.keep, e₂.gens, e₂.os⟩); rw [← z, hb] at q; cases q
    have F₇ := Fr_eff F₃ e7 (fun z => z.elim (fun y => itL y.symm) fun z => z.elim (fun y => CL' y.symm) fun y => bL' y.symm) fun c oo q z => by
      have q' := o.none (fr3 c z)
      rw [q'] at q; cases q
    have hL1i : L + 1 ≠ it := fun z => by obtain ⟨oo, q, _⟩ := hc; rw [z, hit'] at q; cases q
    have hc2 : s₂.heap.IsCell (L + 1) (some (.ref ra)) := IsCell.eff (s := ⟨h₁, s.gens, s.drawn, tk, s.os⟩) hc ⟨e₂.keep, e₂.gens, e₂.os⟩ id
    have hL1C : L + 1 ≠ C := fun z => by obtain ⟨oo, q, _⟩ := hc2; rw [z, hC] at q; cases q
    have hL1b : L + 1 ≠ b := fun z => by obtain ⟨oo, q, _⟩ := hc2; rw [z, hb] at q; cases q
    have hc7 : s₇.heap.IsCell (L + 1) (some (.ref ra)) := IsCell.eff (IsCell.eff hc2 e₃ id) e7 fun z => z.elim hL1i fun z => z.elim hL1C hL1b
    obtain ⟨hyl1, hyl2, oc, hy1, vs, kv, rfl, hy2⟩ := hout y (by rw [← hdone]; simp)
    have hy7 := e07.all hy1
    have hdl : done.length + 1 ≤ outs.length := by rw [← hdone]; simp
    have hsafe : ∀ x, x ∈ [it] ∨ x ∈ [cl0] ∨ x = b → ¬ x = C := by
      rintro x (hx | hx | hx) z
      · rw [List.mem_singleton] at hx; exact hCit (z.symm.trans hx)
      · rw [List.mem_singleton] at hx; exact h0C (hx.symm.trans z)
      · exact hbC (hx.symm.trans z)
    have hrl : ∃ x, (∃ x ∈ y.2, tr ρ x) = x := ⟨_, rfl⟩
    refine wpAny_tests_one (wpAny_isTrue_Compare1 (lh_inner (L := L) (C := C) (ρ := ρ) (cl := y.2) G kf F₇ rm.deeper.hh hc7 (e07.all hr) hn7' (if_pos rfl) (listO_is hy7) hy2 hyl1 (by omega) (by omega) fun s₈ b8 k8 ys8 e₈ hb8 hb8' hiff hlen => List_ (args_nil (new_list (by rw [sizeLine_eq]; simp) fun s₉ c9 hc9 hc9' e₉ => eq_empty (e₉.all hb8') hc9' hu (wpAny_truthy_bool ?_)))))
    have e79 : Eff No s₇ s₉ := e₈.same e₉
    have e69 : Eff (fun x => x = C) s₆ s₉ := ⟨fun c o n q => e79.all (e67.keep c o n q), e79.gens.trans e67.gens, e79.os.trans e67.os⟩
    have hC9 : s₉.heap.Ns C (fun z => if z = Str.ofString "clause" then some (.ref y.1) else m' z) := hn7'.at' fun o q => e79.all q
    have e39 : Eff (fun x => x = it ∨ x = C ∨ x = b) s₃ s₉ := e7.same e79.no
    by_cases c : ys8 = []
    · rw [if_pos (by simpa using c)]
      refine Nm.name (Nm.loc hC9 (if_pos rfl)) ⟨fun x => x = C, _, e69, hsafe, hC9, by rw [sizeLine_eq]; omega, fun s₅' e₅' => ⟨done ++ [y], by rw [List.append_assoc]; exact hdone, ⟨fun z => by simp at z, fun z => ?_⟩, by simp; omega, ?_⟩⟩
      · obtain ⟨x, hx1, hx2⟩ := z y (by simp)
        exact absurd hx2 (hiff.mp c x hx1)
      · exact e39.same ⟨fun c o n q => e₅'.keep c o (fun z => n (.inr (.inr z))) q, e₅'.gens, e₅'.os⟩
    · rw [if_neg (by simpa using c)]
      refine ⟨fun x => x = C, _, e69, hsafe, hC9, done ++ [y], by rw [List.append_assoc]; exact hdone, hys.trans ⟨fun z p hp => ?_, fun z p hp => z p (by simp [hp])⟩, by simp; omega, e39⟩
      rcases List.mem_append.mp hp with q | q
      · exact z p q
      · rw [List.mem_singleton] at q; subst q
        refine Classical.byContradiction fun w => c (hiff.mpr fun x hx hxt => w ⟨x, hx, hxt⟩)
  · rintro ys s₅ s₆ k ⟨done, hdone, hys, hyl, e5⟩ e6 hacc ⟨m', hm'⟩
    rw [List.append_nil] at hdone; subst hdone
    have e36 : Eff (fun x => x = it ∨ x = C ∨ x = b) s₃ s₆ := e5.same (e6.sub fun b z => .inl z)
    refine post_none hm' fun s₇ e₇ => ?_
    have hacc7 := e₇.keep _ _ hbC hacc
    have e07 : Eff No s s₇ := (e03.new e36 (by
      rintro c (rfl | rfl | rfl)
      · exact hits
      · exact hCn
      · exact hbn)).new e₇ fun x z => by rw [z]; exact hCn
    refine List_ (args_nil (new_list (by rw [sizeLine_eq]; simp) fun s₈ c8 hc8 hc8' e₈ => eq_empty (e₈.all hacc7) hc8' hu ?_))
    have := hq s₈ (e07.same e₈)
    have e : decide (ys = []) = lawB done ρ := by
      by_cases c : ys = []
      · rw [decide_eq_true c, lawB_iff.mpr (hys.mp c)]
      · rw [decide_eq_false c]; exact (Bool.eq_false_iff.mpr fun z => c (hys.mpr (lawB_iff.mp z))).symm
    rw [e]; exact this
end
end Dp
end
section
open PySem PySem.W PySem.Calls PyProof.Rows
namespace Dp
def lawSt : Stmt := topDef "law"
def lawBody : List Stmt := dBody lawSt
abbrev lawEnv (fa : Addr) (cd : Value) (L : Addr) : Env := envX "law" (dScope lawSt) L fa cd [(Str.ofString "names", L + 2), (Str.ofString "clauses", L + 1)]
section
variable {prog : Program} {w : World} {K : Frag} {B : Heap} {A : Around} {E : Value → Shared → Prop} {s s' s₁ s₂ : Shared} {L fa a l C : Addr} {cd : Value} {m m' mF : Str → Option Value} {h h' : Heap} {env : Env}
theorem eval_glob {f : Str} {g : Addr} {e : PySem.Expr} {rest : List PySem.Expr} {fp pos : Pos} {Q : Value → Shared → Prop} (G : Bas w K B) (o : On B s.heap) (hf : nsIn K mainGlobals f = some (some (.ref g))) (hkeep : keepIn K (.ref g) = true)
    (he : starEach (e :: rest) env = (false, eval e env) :: starEach rest env) (hp : (backTo pos (starEach rest env)).any (·.1) = false)
    (h : wpAny (model prog w) A (spliced (backTo pos (starEach (e :: rest) env))) (fun vs s₁ => On B s₁.heap ∧ codeAny (model prog w) A (.call (.ref g) ⟨vs, []⟩) (fun r s' => match r with | .ok (.ret v) => Q v s' | .ok _ => False | .error e => E e s') s₁) E s)
    (hg : env.globals = mainGlobals := by rfl) (hk : env.scope.kind = .function := by rfl) (hx : env.kindOf f = some .globalImplicit := by rfl) (hd : (f == ("__debug__" : Str)) = false := by decide) :
    wpAny (model prog w) A (eval (.Call (.Name f fp) (e :: rest) [] pos) env) Q E s := by
  refine Call_ (Nm.name (Nm.glo G o hf hg hk hx hd) ?_)
  refine callWith_of (P := K.In) ?_ (keeps_K hkeep) ?_
  · rw [he]; show ((false || (backTo pos (starEach rest env)).any (·.1)) || false) = false; rw [hp]; rfl
  · refine evalArgs_pl (wpAny_mono h (fun vs s₁ ⟨o₁, h₁⟩ => ⟨G.in o₁, wpAny_call h₁⟩) fun _ _ x => x) he
end
end Dp
end
section
open PySem PySem.W PySem.Calls PyProof.Rows
namespace Dp
section
variable {prog : Program} {w : World} {K : Frag} {B : Heap} {A : Around} {E : Value → Shared → Prop} {s s' s₁ s₂ : Shared} {L fa a l C : Addr} {cd : Value} {m m' mF : Str → Option Value} {h h' : Heap} {env : Env}
theorem law_size {lst : Addr} {vs : List Value} {ns : List Int} {Q : Flow → Shared → Prop} (G : Bas w K B) (kf : KF K) (F : Fr B L s.heap m) (rm : Rm A 2) (hm : m "script" = some (.ref lst)) (hl : s.heap.IsList lst vs.toArray) (hi : IntsAre vs ns) (hz : vs.length ≤ 1000)
    (hq : ∀ s' sz t, 1 ≤ sz → sz ≤ 4 → Fr B L s'.heap (updS m "size" (.int (sz : Nat) t)) → Eff (fun b => b = L) s s' → Q .next s') :
    wpAny (model prog w) A (exec (stAt lawBody 0) (lawEnv fa cd L)) Q E s := by
  refine asnN (B := B) ?_
  refine wpAny_BinOp (wpAny_Constant_int (wpAny_BinOp ?_))
  refine eval_glob (s := ⟨s.heap, s.gens, s.drawn, _, s.os⟩) G (frOn F) kf.gLA kf.fLA.keep se_name (by rfl) ?_
  refine args_cons ?_ se_name
  refine ldN (s := ⟨s.heap, s.gens, s.drawn, _, s.os⟩) F hm ?_
  refine args_cons ?_ se_const
  refine wpAny_Constant_int ?_
  refine args_cons ?_ se_const
  refine wpAny_Constant_int (args_nil ⟨(frOn F), ?_⟩)
  refine call_law_at (s := ⟨s.heap, s.gens, s.drawn, _, s.os⟩) (k := 0) G kf (frOn F) (rm.less (by omega)) hl hi hz fun s₂ v tv e₂ => ?_
  have e02 : Eff No s s₂ := ⟨fun b o n q => e₂.keep b o n q, e₂.gens, e₂.os⟩
  refine wpAny_Constant_int (PyProof.Rows.mod_int (by decide) (PyProof.Rows.add_int ?_))
  have h1 : 0 ≤ v.fmod 4 := Int.fmod_nonneg_of_pos _ (by omega)
  have h2 : v.fmod 4 < 4 := Int.fmod_lt_of_pos _ (by omega)
  obtain ⟨c, hc⟩ : ∃ c : Nat, 1 + v.fmod 4 = (c : Int) ∧ 1 ≤ c ∧ c ≤ 4 := ⟨(1 + v.fmod 4).toNat, by omega, by omega, by omega⟩
  rw [hc.1]
  refine ⟨m, Fr_no (s' := ⟨s₂.heap, s₂.gens, s₂.drawn, _, s₂.os⟩) F ⟨e02.keep, e02.gens, e02.os⟩, fun s₃ F₃ e₃ => hq s₃ c _ hc.2.1 hc.2.2 F₃ (e02.no.same ⟨e₃.keep, e₃.gens, e₃.os⟩)⟩
end
end Dp
end
section
open PySem PySem.W PySem.Calls PyProof.Rows
namespace Dp
section
variable {prog : Program} {w : World} {K : Frag} {B : Heap} {A : Around} {E : Value → Shared → Prop} {s s' s₁ s₂ : Shared} {L fa a l C : Addr} {cd : Value} {m m' mF : Str → Option Value} {h h' : Heap} {env : Env}
theorem asnC {x : Str} {c : Addr} {px pos : Pos} {value : PySem.Expr} {Q : Flow → Shared → Prop} (h : wpAny (model prog w) A (eval value env) (fun v s₁ => (∃ v₀, s₁.heap.IsCell c v₀) ∧ ∀ s₂, s₂.heap.IsCell c (some v) → Eff (fun b => b = c) s₁ s₂ → Q .next s₂) E s)
    (hc : env.cells.lookup x = some c) (hk : env.scope.kind = .function := by rfl) (hx : env.kindOf x = some .cell := by rfl) (hs : swapsWith value (some (.Name x px)) pos.line env = pure false := by rfl) :
    wpAny (model prog w) A (exec (.Assign [.Name x px] value pos) env) Q E s := by
  refine wpAny_Assign_Name (wpAny_mono h (fun v s₁ ⟨⟨v₀, hv⟩, hq⟩ => ?_) fun _ _ x => x) hs
  exact wpAny_storeName_cell hk hx hc hv fun h' hcell sb => hq _ hcell ⟨fun b o n q => (sb.2 b n).trans q, rfl, rfl⟩
theorem law_clauses {lst : Addr} {vs : List Value} {ns : List Int} {sz : Nat} {tz : Tok} {Q : Flow → Shared → Prop} (G : Bas w K B) (kf : KF K) (F : Fr B L s.heap m) (rm : Rm A 4) (hm : m "script" = some (.ref lst)) (hms : m "size" = some (.int sz tz)) (hl : s.heap.IsList lst vs.toArray) (hi : IntsAre vs ns) (hz : vs.length ≤ 1000) (h1 : 1 ≤ sz) (hlB : ∃ o, B.get? lst = some o) (hc : ∃ v₀, s.heap.IsCell (L + 1) v₀) (hcB : B.get? (L + 1) = none)
    (hq : ∀ s' cl0 k0 (outs : List (Addr × List Int)), Fr B L s'.heap m → s'.heap.IsCell (L + 1) (some (.ref cl0)) → s.heap.get? cl0 = none → s'.heap.get? cl0 = some (listO (outs.map fun p => Value.ref p.1).toArray k0) → outs.length ≤ 5 → (∀ q ∈ outs, s.heap.get? q.1 = none ∧ FinC sz q.2 ∧ ∃ oc, s'.heap.get? q.1 = some oc ∧ IntList oc q.2) → Eff (fun b => b = L + 1) s s' → Q .next s') :
    wpAny (model prog w) A (exec (stAt lawBody 1) (lawEnv fa cd L)) Q E s := by
  refine asnC (c := L + 1) ?_ rfl
  refine eval_glob G (frOn F) kf.gLC kf.fLC.keep se_name (by rfl) ?_
  refine args_cons (ldN F hm ?_) se_name
  refine args_cons (wpAny_Constant_int ?_) se_const
  refine args_cons (wpAny_BinOp ?_) se_bin
  refine eval_glob (s := ⟨s.heap, s.gens, s.drawn, _, s.os⟩) G (frOn F) kf.gLA kf.fLA.keep se_name (by rfl) ?_
  refine args_cons (ldN (s := ⟨s.heap, s.gens, s.drawn, _, s.os⟩) F hm ?_) se_name
  refine args_cons (wpAny_Constant_int ?_) se_const
  refine args_cons (wpAny_Constant_int (args_nil ⟨(frOn F), ?_⟩)) se_const
  refine call_law_at (s := ⟨s.heap, s.gens, s.drawn, _, s.os⟩) (k := 1) G kf (frOn F) (rm.less (by omega)) hl hi hz fun s₂ v tv e₂ => ?_
  have e02 : Eff No s s₂ := ⟨fun b o n q => e₂.keep b o n q, e₂.gens, e₂.os⟩
  have F₂ := Fr_no F e02
  refine wpAny_Constant_int (PyProof.Rows.mod_int (by decide) ?_)
  have hb1 : 0 ≤ v.fmod 6 := Int.fmod_nonneg_of_pos _ (by omega)
  have hb2 : v.fmod 6 < 6 := Int.fmod_lt_of_pos _ (by omega)
  obtain ⟨c, hc1, hc2⟩ : ∃ c : Nat, v.fmod 6 = (c : Int) ∧ c ≤ 5 := ⟨(v.fmod 6).toNat, by omega, by omega⟩
  rw [hc1]
  refine args_cons (ldN (s := ⟨s₂.heap, s₂.gens, s₂.drawn, _, s₂.os⟩) F₂ hms (args_nil ⟨(frOn F₂), ?_⟩)) se_name
  refine call_law_clauses (s := ⟨s₂.heap, s₂.gens, s₂.drawn, _, s₂.os⟩) (st := 2) G kf (frOn F₂) (rm.less (by omega)) (hl.at fun o q => e02.all q) hi hz h1 hlB (by omega) fun s₃ cl0 k0 outs e₃ x1 x2 x3 x4 => ?_
  have e03 : Eff No s s₃ := e02.same ⟨e₃.keep, e₃.gens, e₃.os⟩
  obtain ⟨v₀, hcv⟩ := hc
  have hcv3 := IsCell.eff hcv e03 id
  refine ⟨⟨_, hcv3⟩, fun s₄ hc4 e₄ => ?_⟩
  have hL1L : L + 1 ≠ L := Nat.succ_ne_self L
  have live : ∃ o, s.heap.get? (L + 1) = some o := IsCell.live hcv
  have ne : ∀ {b}, s.heap.get? b = none → b ≠ L + 1 := fun q z => by obtain ⟨o, y⟩ := live; rw [← z, q] at y; cases y
  refine hq s₄ cl0 k0 outs (Fr_eff (Fr_no F e03) e₄ (fun z => hL1L z.symm) fun b o q z => by rw [z, hcB] at q; cases q) hc4 (e02.none x1) (e₄.keep _ _ (ne (e02.none x1)) x2) (by omega) (fun q hq' => ?_) (e03.no.same e₄)
  obtain ⟨y1, y2, oc, y3, y4⟩ := x4 q hq'
  exact ⟨e02.none y1, y2, oc, e₄.keep _ _ (ne (e02.none y1)) y3, y4⟩
end
end Dp
end
section
open PySem PySem.W PySem.Calls PyProof.Rows
namespace Dp
def asV : Stmt → PySem.Expr | .Assign _ v _ => v | _ => .Name "" default
def callArg (i : Nat) : PySem.Expr → PySem.Expr | .Call _ a _ _ => a.getD i (.Name "" default) | _ => .Name "" default
def dueSc : Scope := dcScope (callArg 0 (asV (stAt lawBody 2)))
abbrev dueEnv (fa : Addr) (cd : Value) (L C : Addr) : Env := cEnv dueSc [(Str.ofString "clauses", L + 1)] C (lawEnv fa cd L)
def rowsAll (n : Nat) : List (List Bool) := (List.range (2 ^ n)).map (rowN n)
noncomputable abbrev holdsB (outs : List (Addr × List Int)) (ρ : List Bool) : Bool := lawB outs ρ
section
variable {prog : Program} {w : World} {K : Frag} {B : Heap} {A : Around} {E : Value → Shared → Prop} {s s' s₁ s₂ : Shared} {L fa a l C : Addr} {cd : Value} {m m' mF : Str → Option Value} {h h' : Heap} {env : Env}
theorem rowN_len (n k : Nat) : (rowN n k).length = n := by unfold rowN; simp
theorem law_due {cl0 : Addr} {outs : List (Addr × List Int)} {k0 sz : Nat} {tz : Tok} {Q : Flow → Shared → Prop} (G : Bas w K B) (kf : KF K) (F : Fr B L s.heap m) (rm : Rm A 4) (hms : m "size" = some (.int sz tz)) (h4 : sz ≤ 4) (hc : s.heap.IsCell (L + 1) (some (.ref cl0))) (hl : s.heap.get? cl0 = some (listO (outs.map fun p => Value.ref p.1).toArray k0)) (hz : outs.length ≤ 5)
    (hout : ∀ q ∈ outs, FinC sz q.2 ∧ ∃ oc, s.heap.get? q.1 = some oc ∧ IntList oc q.2)
    (hq : ∀ s' db de (ys : List Value), Fr B L s'.heap (updS m "due" (.ref db)) → s.heap.get? db = none → s'.heap.get? db = some (listO ys.toArray de) → (∀ v ∈ ys, RowV s'.heap sz v) → (ys.map (rowAt s'.heap)).Perm ((rowsAll sz).filter (holdsB outs)) → (ys.map (rowAt s'.heap)).Pairwise (fun x y => bval x ≤ bval y) → Eff (fun b => b = L) s s' → Q .next s') :
    wpAny (model prog w) A (exec (stAt lawBody 2) (lawEnv fa cd L)) Q E s := by
  refine asnN (B := B) ?_
  refine Call_ (Nm.name (Nm.bui G kf (frOn F)) (PyProof.Rows.callWith_builtin1 ?_ se_lc (by rfl)))
  refine args_cons ?_ se_lc
  rw [eval_ListComp]
  have h1 : closureFor dueSc (lawEnv fa cd L) = pure [(Str.ofString "clauses", L + 1)] := by rfl
  refine lcomp (V := fun (p : Addr × List Bool) v => v = .ref p.1) rm.hh h1 rfl (by decide) (by intro _; rfl) ?_
  refine eval_glob G (frOn F) kf.gLR kf.fLR.keep se_name (by rfl) ?_
  refine args_cons (ldN F hms (args_nil ⟨(frOn F), ?_⟩)) se_name
  refine call_law_rows G kf (frOn F) (rm.less (by omega)) h4 fun s₁ rb rk as e₁ hr0 hr1 hf => ?_
  have hlen : as.length = (rowsAll sz).length := by rw [hf.length]; simp [rowsAll]
  have hfst : (as.zip (rowsAll sz)).map (·.1) = as := List.map_fst_zip (Nat.le_of_eq hlen)
  have hsnd : (as.zip (rowsAll sz)).map (·.2) = rowsAll sz := List.map_snd_zip (Nat.le_of_eq hlen.symm)
  have hpr : ∀ p ∈ as.zip (rowsAll sz), s.heap.get? p.1 = none ∧ p.2.length = sz ∧ ∃ k, s₁.heap.get? p.1 = some (listO (p.2.map Value.bool).toArray k) := by
    have gen : ∀ {as : List Addr} {ns : List Nat}, F2 (fun a n => s.heap.get? a = none ∧ a ≠ rb ∧ ∃ k, s₁.heap.get? a = some (listO ((rowN sz n).map Value.bool).toArray k)) as ns → ∀ p ∈ as.zip (ns.map (rowN sz)), s.heap.get? p.1 = none ∧ p.2.length = sz ∧ ∃ k, s₁.heap.get? p.1 = some (listO (p.2.map Value.bool).toArray k) := by
      intro as ns x
      induction x with
      | nil => intro p hp; simp at hp
      | cons r _ ih =>
        intro p hp
        rw [List.map_cons, List.zip_cons_cons] at hp
        rcases List.mem_cons.mp hp with rfl | hp
        · exact ⟨r.1, rowN_len _ _, r.2.2⟩
        · exact ih p hp
    exact gen hf
  generalize hP : as.zip (rowsAll sz) = prs at hfst hsnd hpr
  have hvals : as.map Value.ref = prs.map fun p => Value.ref p.1 := by rw [← hfst, List.map_map]; rfl
  rw [hvals] at hr1
  refine iter_list (V := fun (p : Addr × List Bool) v => v = .ref p.1) (xs := prs) (listO_is hr1) (f2_map _ _) fun s₂ it T e₂ hit IT hT => ?_
  have e02 : Eff No s s₂ := e₁.same e₂
  refine ⟨it, [it], [rb], T, prs, rfl, IT, hT, fun b C hb hC hbC s₃ e₃ hp3 hCe hbe => ?_⟩
  have e03 := e02.same e₃
  have hbn := e02.none hb
  have hCn := e02.none hC
  have hits : s.heap.get? it = none := e₁.none hit
  have hCit : C ≠ it := fun z => by obtain ⟨oo, q⟩ := IT.live hT it IT.mem; rw [← z, hC] at q; cases q
  have lrb : ∃ o, s₂.heap.get? rb = some o := ⟨_, e₂.all hr1⟩
  have hrbb : rb ≠ b := fun z => by obtain ⟨oo, q⟩ := lrb; rw [z, hb] at q; cases q
  have hrbC : rb ≠ C := fun z => by obtain ⟨oo, q⟩ := lrb; rw [z, hC] at q; cases q
  have hneP : ∀ p ∈ prs, p.1 ≠ b ∧ p.1 ≠ C ∧ p.1 ≠ it := fun p hp => by
    obtain ⟨_, _, k, q⟩ := hpr p hp
    exact ⟨fun z => (by have := e₂.all q; rw [z, hb] at this; cases this), fun z => (by have := e₂.all q; rw [z, hC] at this; cases this), fun z => (by rw [z, hit] at q; cases q)⟩
  have hpl : prs.length ≤ 16 := by
    have h1 : prs.length = 2 ^ sz := by have := congrArg List.length hsnd; rw [List.length_map] at this; rw [this]; simp [rowsAll]
    rw [h1]; exact Nat.le_trans (Nat.pow_le_pow_right (by decide) h4) (by decide)
  refine ⟨fun r ys s' => ∃ (done sel : List (Addr × List Bool)), done ++ r = prs ∧ sel.map (·.2) = (done.map (·.2)).filter (holdsB outs) ∧ (∀ p ∈ sel, p ∈ done) ∧ sel.length ≤ done.length ∧ ys = sel.map (fun p => Value.ref p.1) ∧ Eff (fun x => x = it ∨ x = C ∨ x = b) s₃ s', ⟨[], [], rfl, rfl, (fun p h => nomatch h), Nat.le_refl _, rfl, ⟨fun b o n q => q, rfl, rfl⟩⟩, ?_, ?_, by simpa using Ne.symm hrbC, by simpa using Ne.symm hrbb⟩
  · rintro y r ys s₅ s₆ v m' k ⟨done, sel, hdone, hsel, hin, hsl, rfl, e5⟩ rfl e6 hC6 hlive hacc
    have fr3 : ∀ c, c = it ∨ c = C ∨ c = b → s.heap.get? c = none := by
      rintro c (rfl | rfl | rfl)
      · exact hits
      · exact hCn
      · exact hbn
    have e6' : Eff (fun x => x = it ∨ x = C ∨ x = b) s₃ s₆ := e5.same (e6.sub fun b z => .inl z)
    refine wpAny_assign_Name (wpAny_storeName_local (by rfl) hC6 (fun h₇ hn7 sb₇ => ?_) (by rfl))
    have e67 : Eff (fun x => x = C) s₆ { s₆ with heap := h₇, toks := s₆.toks + 1 } := sb_eff sb₇ rfl
    generalize hs7 : ({ s₆ with heap := h₇, toks := s₆.toks + 1 } : Shared) = s₇ at e67
    have hn7' : s₇.heap.Ns C (fun z => if z = Str.ofString "row" then some (.ref y.1) else m' z) := by subst hs7; exact hn7
    have e7 : Eff (fun x => x = it ∨ x = C ∨ x = b) s₃ s₇ := e6'.same (e67.sub fun b z => .inr (.inl z))
    have e07 : Eff No s s₇ := e03.new e7 fr3
    have F₇ := Fr_no F e07
    have hc7 := IsCell.eff hc e07 id
    have hyp : y ∈ prs := by rw [← hdone]; simp
    obtain ⟨hy0, hyl, ky, hy1⟩ := hpr y hyp
    have hny := hneP y hyp
    have hy7 : s₇.heap.get? y.1 = some (listO (y.2.map Value.bool).toArray ky) := e7.keep _ _ (fun z => z.elim hny.2.2 fun z => z.elim hny.2.1 hny.1) (e₃.all (e₂.all hy1))
    have hdl : done.length + 1 ≤ prs.length := by rw [← hdone]; simp
    have hsafe : ∀ x, x ∈ [it] ∨ x ∈ [rb] ∨ x = b → ¬ x = C := by
      rintro x (hx | hx | hx) z
      · rw [List.mem_singleton] at hx; exact hCit (z.symm.trans hx)
      · rw [List.mem_singleton] at hx; exact hrbC (hx.symm.trans z)
      · exact hbC (hx.symm.trans z)
    refine wpAny_tests_one (isTrue_plain ?_)
    refine eval_glob (env := dueEnv fa cd L C) G (frOn F₇) kf.gLH kf.fLH.keep se_name (by rfl) ?_
    refine args_cons (Nm.name (Nm.cell hc7 rfl) ?_) se_name
    refine args_cons (Nm.name (Nm.loc hn7' (if_pos rfl)) (args_nil ⟨(frOn F₇), ?_⟩)) se_name
    refine call_law_holds (ρ := y.2) G kf (frOn F₇) (rm.less (by omega)) (e07.all hl) hy7 (fun p hp => ?_) (by omega) (by omega) fun s₈ e₈ => ?_
    · obtain ⟨fc, oc, q1, q2⟩ := hout p hp
      exact ⟨fun x hx => by rw [hyl]; exact (fc.g.lit x hx).1, by have := fc.len; omega, oc, e07.all q1, q2⟩
    refine wpAny_truthy_bool ?_
    have e68 : Eff (fun x => x = C) s₆ s₈ := ⟨fun c o n q => e₈.all (e67.keep c o n q), e₈.gens.trans e67.gens, e₈.os.trans e67.os⟩
    have hC8 : s₈.heap.Ns C (fun z => if z = Str.ofString "row" then some (.ref y.1) else m' z) := hn7'.at' fun o q => e₈.all q
    have e38 : Eff (fun x => x = it ∨ x = C ∨ x = b) s₃ s₈ := e7.same e₈.no
    by_cases c : holdsB outs y.2 = true
    · rw [if_pos c]
      refine Nm.name (Nm.loc hC8 (if_pos rfl)) ⟨fun x => x = C, _, e68, hsafe, hC8, by rw [List.length_map, sizeLine_eq]; omega, fun s₉ e₉ => ⟨done ++ [y], sel ++ [y], by rw [List.append_assoc]; exact hdone, ?_, fun p hp => ?_, by simp; omega, by rw [List.map_append]; rfl, e38.same (e₉.sub fun x z => .inr (.inr z))⟩⟩
      · rw [List.map_append, List.map_append, List.filter_append, hsel]
        congr 1
        simp [c]
      · rcases List.mem_append.mp hp with q | q
        · exact List.mem_append_left _ (hin p q)
        · exact List.mem_append_right _ q
    · rw [if_neg c]
      refine ⟨fun x => x = C, _, e68, hsafe, hC8, done ++ [y], sel, by rw [List.append_assoc]; exact hdone, ?_, fun p hp => List.mem_append_left _ (hin p hp), by simp; omega, rfl, e38⟩
      rw [List.map_append, List.filter_append, hsel]
      simp [c]
  · rintro ys s₅ s₆ k ⟨done, sel, hdone, hsel, hin, hsl, rfl, e5⟩ e6 hacc ⟨m', hm'⟩
    rw [List.append_nil] at hdone; subst hdone
    have e36 : Eff (fun x => x = it ∨ x = C ∨ x = b) s₃ s₆ := e5.same (e6.sub fun b z => .inl z)
    refine post_none hm' fun s₇ e₇ => args_nil ?_
    have e37 : Eff (fun x => x = it ∨ x = C ∨ x = b) s₃ s₇ := e36.same (e₇.sub fun b z => .inr (.inl z))
    have e07 : Eff No s s₇ := e03.new e37 (by
      rintro c (rfl | rfl | rfl)
      · exact hits
      · exact hCn
      · exact hbn)
    have hacc7 := e₇.keep _ _ hbC hacc
    have hrow : ∀ p ∈ done, ∃ k, s₇.heap.get? p.1 = some (listO (p.2.map Value.bool).toArray k) := fun p hp => by
      obtain ⟨_, _, k, q⟩ := hpr p hp
      have n := hneP p hp
      exact ⟨k, e37.keep _ _ (fun z => z.elim n.2.2 fun z => z.elim n.2.1 n.1) (e₃.all (e₂.all q))⟩
    have hRV : ∀ v ∈ sel.map (fun p => Value.ref p.1), RowV s₇.heap sz v := fun v hv => by
      obtain ⟨p, hp, rfl⟩ := List.mem_map.mp hv
      obtain ⟨k, q⟩ := hrow p (hin p hp)
      exact ⟨p.1, p.2, k, rfl, q, (hpr p (hin p hp)).2.1⟩
    have hru : A.units + 10 < cLine := by have := rm.un; omega
    refine call_sorted_rows (nn := sz) (listO_is hacc7) hRV (by rw [List.length_map]; omega) hru fun s₈ db out de e₈ hd0 hd1 hperm hsort => ?_
    have e08 := e07.same e₈
    have hRV8 : ∀ v ∈ out, RowV s₇.heap sz v := fun v hv => hRV v (hperm.mem_iff.mp hv)
    have keep8 : ∀ {v}, RowV s₇.heap sz v → RowV s₈.heap sz v ∧ rowAt s₈.heap v = rowAt s₇.heap v := by
      rintro v ⟨a, ρ, k, rfl, q1, q2⟩
      exact ⟨⟨a, ρ, k, rfl, e₈.all q1, q2⟩, by rw [rowAt_row q1, rowAt_row (e₈.all q1)]⟩
    have hmap : out.map (rowAt s₈.heap) = out.map (rowAt s₇.heap) := List.map_congr_left fun v hv => (keep8 (hRV8 v hv)).2
    have hselrows : (sel.map (fun p => Value.ref p.1)).map (rowAt s₇.heap) = sel.map (·.2) := by
      rw [List.map_map]
      exact List.map_congr_left fun p hp => by obtain ⟨k, q⟩ := hrow p (hin p hp); exact rowAt_row q
    refine ⟨m, Fr_no F e08, fun s₉ F₉ e₉ => ?_⟩
    have hdL : db ≠ L := fun z => by obtain ⟨oo, q⟩ := Fr_live (Fr_no F e07); rw [← z, hd0] at q; cases q
    have hLrow : ∀ {v}, RowV s₈.heap sz v → RowV s₇.heap sz v → RowV s₉.heap sz v ∧ rowAt s₉.heap v = rowAt s₈.heap v := by
      rintro v ⟨a, ρ, k, rfl, q1, q2⟩ -
      have haL : a ≠ L := fun z => by
        subst z
        obtain ⟨oo, es, ep, q, r⟩ := (Fr_no F e08).ns
        rw [q1] at q
        have := Option.some.inj q
        subst this
        exact absurd r.1 (by intro z; cases z)
      exact ⟨⟨a, ρ, k, rfl, e₉.keep _ _ haL q1, q2⟩, by rw [rowAt_row q1, rowAt_row (e₉.keep _ _ haL q1)]⟩
    have hmap9 : out.map (rowAt s₉.heap) = out.map (rowAt s₇.heap) := (List.map_congr_left fun v hv => (hLrow (keep8 (hRV8 v hv)).1 (hRV8 v hv)).2).trans hmap
    refine hq s₉ db de out F₉ (e07.none hd0) (e₉.keep _ _ hdL hd1) (fun v hv => (hLrow (keep8 (hRV8 v hv)).1 (hRV8 v hv)).1) ?_ ?_ (e08.no.same e₉)
    · rw [hmap9, ← hsnd, ← hsel, ← hselrows]
      exact hperm.map _
    · rw [hmap9, List.pairwise_map]
      exact hsort.imp_of_mem fun {a b} ha hb hab => by rw [← rkOf_rowAt (hRV8 a ha), ← rkOf_rowAt (hRV8 b hb)]; exact hab
end
end Dp
end
section
open PySem PySem.W PySem.Calls PyProof.Rows
namespace Dp
def namSc : Scope := dcScope (asV (stAt lawBody 3))
def nmx (k : Nat) : Str := Str.ofString "x" ++ Str.ofString (toString ((k : Nat) : Int))
theorem add2_ne (L : Nat) : L + 2 ≠ L := by omega
theorem nmx_inj : ∀ i j, i < 4 → j < 4 → nmx i = nmx j → i = j := by
  have h : ∀ i : Fin 4, ∀ j : Fin 4, nmx i.1 = nmx j.1 → i = j := by decide +kernel
  intro i j hi hj e
  have := h ⟨i, hi⟩ ⟨j, hj⟩ e
  exact congrArg Fin.val this
section
variable {prog : Program} {w : World} {K : Frag} {B : Heap} {A : Around} {E : Value → Shared → Prop} {s s' s₁ s₂ : Shared} {L fa a l C : Addr} {cd : Value} {m m' mF : Str → Option Value} {h h' : Heap} {env : Env}
theorem law_names {sz : Nat} {tz : Tok} {Q : Flow → Shared → Prop} (G : Bas w K B) (kf : KF K) (F : Fr B L s.heap m) (hh : A.handled = none) (hms : m "size" = some (.int sz tz)) (h4 : sz ≤ 4) (hc : ∃ v₀, s.heap.IsCell (L + 2) v₀) (hcB : B.get? (L + 2) = none)
    (hq : ∀ s' nb k (vals : List Value), Fr B L s'.heap m → s'.heap.IsCell (L + 2) (some (.ref nb)) → s.heap.get? nb = none → s'.heap.get? nb = some (listO vals.toArray k) → vals.length = sz → (∀ i, i < sz → ∃ t, vals[i]? = some (.str (nmx i) t)) → Eff (fun b => b = L + 2) s s' → Q .next s') :
    wpAny (model prog w) A (exec (stAt lawBody 3) (lawEnv fa cd L)) Q E s := by
  refine asnC (c := L + 2) ?_ rfl
  rw [eval_ListComp]
  have h1 : closureFor namSc (lawEnv fa cd L) = pure [] := closureFor_none (by decide)
  refine lcomp (V := IsInt) hh h1 rfl (by decide) (by intro _; rfl) ?_
  refine Call_ (Nm.name (Nm.bui G kf (frOn F)) (PyProof.Rows.callWith_type1 (args_cons (ldN F hms (args_nil ?_)) se_name)))
  refine call_range1 fun s₁ r tr ur vr hr0 hr e₁ => ?_
  refine iter_rangeN hr ⟨by omega, by omega, by omega, by omega⟩ fun s₂ it T e₂ hit IT hT => ?_
  rw [show ((sz : Int) - 0).toNat = sz by omega] at hT
  have e02 : Eff No s s₂ := e₁.same e₂
  refine ⟨it, [it], [], T, _, rfl, IT, hT, fun b C hb hC hbC s₃ e₃ hp3 hCe hbe => ?_⟩
  have e03 := e02.same e₃
  have hbn := e02.none hb
  have hCn := e02.none hC
  have hits : s.heap.get? it = none := e₁.none hit
  have hCit : C ≠ it := fun z => by obtain ⟨oo, q⟩ := IT.live hT it IT.mem; rw [← z, hC] at q; cases q
  refine ⟨fun r ys s' => ∃ j : Nat, j ≤ sz ∧ r = upFrom (j : Int) (sz - j) ∧ ys.length = j ∧ (∀ i, i < j → ∃ t, ys[i]? = some (.str (nmx i) t)) ∧ Eff No s s', ⟨0, Nat.zero_le _, rfl, rfl, fun i h => absurd h (Nat.not_lt_zero _), e03⟩, ?_, ?_, by simp, by simp⟩
  · rintro y r ys s₅ s₆ v m' k ⟨j, hj, hr, hyl, hys, e5⟩ ⟨tk, rfl⟩ e6 hC6 hlive hacc
    obtain ⟨q, hq1⟩ : ∃ q, sz - j = q + 1 := by
      cases z : sz - j with
      | zero => rw [z] at hr; cases hr
      | succ q => exact ⟨q, rfl⟩
    rw [hq1, upFrom_succ] at hr
    injection hr with hy hr
    subst hy
    have e6' : Eff No s s₆ := eff_new e5 e6 fun x z => by rw [z]; exact hits
    refine wpAny_assign_Name (wpAny_storeName_local (by rfl) hC6 (fun h₇ hn7 sb₇ => ?_) (by rfl))
    refine wpAny_tests_nil ?_
    rw [if_pos rfl]
    have e67 : Eff (fun x => x = C) s₆ { s₆ with heap := h₇, toks := s₆.toks + 1 } := sb_eff sb₇ rfl
    generalize hs7 : ({ s₆ with heap := h₇, toks := s₆.toks + 1 } : Shared) = s₇ at e67
    have hn7' : s₇.heap.Ns C (fun z => if z = Str.ofString "k" then some (.int j tk) else m' z) := by subst hs7; exact hn7
    have e7 : Eff No s s₇ := eff_new e6' e67 fun x z => by rw [z]; exact hCn
    have F₇ := Fr_no F e7
    have hab : (if ((j : Nat) : Int) < 0 then 0 - ((j : Nat) : Int) else ((j : Nat) : Int)) < 100 := by rw [if_neg (by omega)]; omega
    refine wpAny_BinOp (wpAny_Constant_str (Call_ (Nm.name (s := { s₇ with toks := s₇.toks + 1 }) (Nm.bui G kf (frOn F₇)) (PyProof.Rows.callWith_type1 (args_cons (Nm.name (s := { s₇ with toks := s₇.toks + 1 }) (Nm.loc hn7' (if_pos rfl)) (args_nil ?_)) se_name)))))
    refine str_of_int_fit (N := 100) hab (by decide) fun hlen => ?_
    refine SB.add (fun t' k' => ?_) (by rw [sizeLine_eq]; have h1 : (Str.ofString "x").length = 1 := by decide
                                        have := len_str_of_int ((j : Nat) : Int); omega)
    have e78 : Eff No s₇ ⟨s₇.heap, s₇.gens, s₇.drawn, k', s₇.os⟩ := ⟨fun b o _ q => q, rfl, rfl⟩
    refine ⟨fun x => x = C, _, ⟨e67.keep, e67.gens, e67.os⟩, ?_, hn7', ?_, fun s₉ e₉ => ⟨j + 1, by omega, ?_, by simp [hyl], ?_, ?_⟩⟩
    · rintro x (hx | hx | hx) z
      · rw [List.mem_singleton] at hx; exact hCit (z.symm.trans hx)
      · cases hx
      · exact hbC (hx.symm.trans z)
    · rw [hyl, sizeLine_eq]; omega
    · rw [hr, show sz - (j + 1) = q by omega]; rfl
    · intro i hi
      by_cases c : i < j
      · obtain ⟨t, ht⟩ := hys i c
        exact ⟨t, by rw [List.getElem?_append_left (by rw [hyl]; exact c)]; exact ht⟩
      · have : i = j := by omega
        subst this
        exact ⟨t', by rw [List.getElem?_append_right (by omega), hyl]; simp; rfl⟩
    · exact eff_new (e7.same e78) e₉ fun x z => by rw [z]; exact hbn
  · rintro ys s₅ s₆ k ⟨j, hj, hr, hyl, hys, e5⟩ e6 hacc ⟨m', hm⟩
    have hjc : j = sz := by
      cases z : sz - j with
      | zero => omega
      | succ q => rw [z] at hr; cases hr
    subst hjc
    have e6' : Eff No s s₆ := eff_new e5 e6 fun b z => by rw [z]; exact hits
    refine post_none hm fun s₇ e₇ => ?_
    have e07 : Eff No s s₇ := eff_new e6' e₇ fun x z => by rw [z]; exact hCn
    obtain ⟨v₀, hcv⟩ := hc
    have hcv7 := IsCell.eff hcv e07 id
    refine ⟨⟨_, hcv7⟩, fun s₈ hc8 e₈ => ?_⟩
    have hL2L : L + 2 ≠ L := add2_ne L
    have hbL : b ≠ L + 2 := fun z => by obtain ⟨o, y⟩ := IsCell.live hcv; rw [← z, hbn] at y; cases y
    exact hq s₈ b k ys (Fr_eff (Fr_no F e07) e₈ (fun z => hL2L z.symm) fun b o q z => by rw [z, hcB] at q; cases q) hc8 hbn (e₈.keep _ _ hbL (e₇.keep _ _ hbC hacc)) hyl hys (e07.no.same e₈)
end
end Dp
end
section
open PySem PySem.W PySem.Calls PyProof.Rows
namespace Dp
def gIter : PySem.Expr → PySem.Expr | .ListComp _ (g :: _) _ _ => g.iter | _ => .Name "" default
def attrOf : PySem.Expr → PySem.Expr | .Attribute e _ _ => e | _ => .Name "" default
def callFn : PySem.Expr → PySem.Expr | .Call f _ _ _ => f | _ => .Name "" default
def tellE : PySem.Expr := asV (stAt lawBody 4)
def solvE : PySem.Expr := attrOf (callFn (gIter tellE))
def tellSc : Scope := dcScope tellE
def rowSc : Scope := dcScope (lcElt tellE)
def setsSc : Scope := dcScope (callArg 0 solvE)
def lrnE : PySem.Expr := asV (stAt lawBody 5)
section
variable {prog : Program} {w : World} {K : Frag} {B : Heap} {A : Around} {E : Value → Shared → Prop} {s s' s₁ s₂ : Shared} {L fa a l C : Addr} {cd : Value} {m m' mF : Str → Option Value} {h h' : Heap} {env : Env} {α : Type} {V : α → Value → Prop}
theorem iter_listN {l : Addr} {vs : List Value} {xs : List α} {Q : Value → Shared → Prop} (hl : s.heap.IsList l vs.toArray) (hv : F2 V xs vs)
    (hq : ∀ s' it T, Eff No s s' → s.heap.get? it = none → s.heap.objs.size ≤ s'.heap.objs.size → Iter prog w V [it] [l] it T → T xs s'.heap → Q (.ref it) s') : wpAny (model prog w) A (pyIter (.ref l)) Q E s := by
  have hne : s.heap.objs.size ≠ l := fun z => by obtain ⟨o, ho, _⟩ := hl; exact Nat.lt_irrefl _ (z ▸ Heap.lt_size ho)
  refine wpAny_pyIter_list hl (hq _ s.heap.objs.size _ ⟨fun b o _ e => Heap.get?_push_of_some _ e, rfl, rfl⟩ new_none ?_ (Iter.list hne hv) ⟨0, rfl, ⟨_, Heap.get?_push_size _ rfl, rfl, rfl⟩, hl.push _⟩)
  show _ ≤ (s.heap.push _).objs.size
  rw [Heap.size_push]; exact Nat.le_succ _
theorem eval_sets {cl0 : Addr} {outs : List (Addr × List Int)} {k0 sz : Nat} {a1 a2 a3 b1 b2 c1 : Pos} {Q : Value → Shared → Prop} (G : Bas w K B) (kf : KF K) (F : Fr B L s.heap m) (hh : A.handled = none) (hc : s.heap.IsCell (L + 1) (some (.ref cl0))) (hl : s.heap.get? cl0 = some (listO (outs.map fun p => Value.ref p.1).toArray k0)) (hz : outs.length ≤ 5)
    (hout : ∀ q ∈ outs, FinC sz q.2 ∧ ∃ oc, s.heap.get? q.1 = some oc ∧ IntList oc q.2)
    (hq : ∀ s' b k (xs : List (Addr × List Int)), Eff No s s' → s.heap.get? b = none → s.heap.objs.size ≤ b → s'.heap.get? b = some (listO (xs.map fun p => Value.ref p.1).toArray k) → xs.map (·.2) = outs.map (·.2) → (∀ p ∈ xs, s.heap.get? p.1 = none ∧ ∃ o, s'.heap.get? p.1 = some o ∧ IntSet w o p.2) → Q (.ref b) s') :
    wpAny (model prog w) A (eval (.ListComp (.Call (.Name "set" a1) [.Name "clause" a2] [] a3) [⟨.Name "clause" b1, .Name "clauses" b2, [], 0⟩] setsSc c1) (lawEnv fa cd L)) Q E s := by
  rw [eval_ListComp]
  have h1 : closureFor setsSc (lawEnv fa cd L) = pure [] := closureFor_none (by decide)
  refine lcomp (V := fun (p : Addr × List Int) v => v = .ref p.1) hh h1 rfl (by decide) (by intro _; rfl) ?_
  refine Nm.name (Nm.cell hc rfl) ?_
  refine iter_listN (V := fun (p : Addr × List Int) v => v = .ref p.1) (xs := outs) (listO_is hl) (f2_map _ _) fun s₂ it T e02 hits hsz IT hT => ?_
  refine ⟨it, [it], [cl0], T, outs, rfl, IT, hT, fun b C hb hC hbC s₃ e₃ hp3 hCe hbe => ?_⟩
  have e03 := e02.same e₃
  have hbn := e02.none hb
  have hCn := e02.none hC
  have hCit : C ≠ it := fun z => by obtain ⟨oo, q⟩ := IT.live hT it IT.mem; rw [← z, hC] at q; cases q
  have hcl2 : ∃ o, s₂.heap.get? cl0 = some o := ⟨_, e02.all hl⟩
  have hcb : cl0 ≠ b := fun z => by obtain ⟨oo, q⟩ := hcl2; rw [z, hb] at q; cases q
  have hcC : cl0 ≠ C := fun z => by obtain ⟨oo, q⟩ := hcl2; rw [z, hC] at q; cases q
  have hsb : s.heap.objs.size ≤ b := by rw [hbe]; exact hsz
  refine ⟨fun r ys s' => ∃ (done : List (Addr × List Int)) (xs : List (Addr × List Int)), done ++ r = outs ∧ ys = (xs.map fun p => Value.ref p.1) ∧ xs.map (·.2) = done.map (·.2) ∧ (∀ p ∈ xs, s.heap.get? p.1 = none ∧ p.1 ≠ it ∧ p.1 ≠ b ∧ p.1 ≠ C ∧ ∃ o, s'.heap.get? p.1 = some o ∧ IntSet w o p.2) ∧ Eff No s s', ⟨[], [], rfl, rfl, rfl, fun p h => (nomatch h), e03⟩, ?_, ?_, by simpa using Ne.symm hcC, by simpa using Ne.symm hcb⟩
  · rintro y r ys s₅ s₆ v m' k ⟨done, xs, hdone, rfl, hxs, hx, e5⟩ rfl e6 hC6 hlive hacc
    have e6' : Eff No s s₆ := eff_new e5 e6 fun x z => by rw [z]; exact hits
    refine wpAny_assign_Name (wpAny_storeName_local (by rfl) hC6 (fun h₇ hn7 sb₇ => ?_) (by rfl))
    refine wpAny_tests_nil ?_
    rw [if_pos rfl]
    have e67 : Eff (fun x => x = C) s₆ { s₆ with heap := h₇, toks := s₆.toks + 1 } := sb_eff sb₇ rfl
    generalize hs7 : ({ s₆ with heap := h₇, toks := s₆.toks + 1 } : Shared) = s₇ at e67
    have hn7' : s₇.heap.Ns C (fun z => if z = Str.ofString "clause" then some (.ref y.1) else m' z) := by subst hs7; exact hn7
    have e7 : Eff No s s₇ := eff_new e6' e67 fun x z => by rw [z]; exact hCn
    have F₇ := Fr_no F e7
    have hyo : y ∈ outs := by rw [← hdone]; simp
    obtain ⟨fc, oc, hy1, hy2⟩ := hout y hyo
    obtain ⟨vs, hv1, hv2⟩ := hy2.isList (e7.all hy1)
    refine Call_ (Nm.name (Nm.bui G kf (frOn F₇)) (PyProof.Rows.callWith_type1 (args_cons (Nm.name (Nm.loc hn7' (if_pos rfl)) (args_nil ?_)) se_name)))
    have hdl : done.length + 1 ≤ outs.length := by rw [← hdone]; simp
    refine call_setL (w := w) hh hv1 hv2 fc.g.nd (by have := fc.len; show _ < 4096; omega) fun h₈ tk₈ o₈ hk₈ hn₈ ho₈ hi₈ => ?_
    have e78 : Eff No s₇ ⟨h₈, s₇.gens, s₇.drawn, tk₈, s₇.os⟩ := ⟨fun b o _ q => hk₈ b o q, rfl, rfl⟩
    have ne : ∀ {c}, (∃ o, s₇.heap.get? c = some o) → s₇.heap.objs.size ≠ c := fun ⟨o, q⟩ z => by rw [← z, hn₈] at q; cases q
    have liveC : ∃ o, s₇.heap.get? C = some o := by obtain ⟨oo, _, _, q, _⟩ := hn7'; exact ⟨oo, q⟩
    have liveb : ∃ o, s₇.heap.get? b = some o := ⟨_, e67.keep _ _ hbC hacc⟩
    have liveit : ∃ o, s₇.heap.get? it = some o := by obtain ⟨oo, q⟩ := hlive it (by simp); exact ⟨oo, e67.keep _ _ (Ne.symm hCit) q⟩
    refine ⟨fun x => x = C, _, ⟨fun c o n q => hk₈ c o (e67.keep c o n q), e67.gens, e67.os⟩, ?_, hn7'.at' fun o q => hk₈ _ o q, ?_, fun s₉ e₉ => ⟨done ++ [y], xs ++ [(s₇.heap.objs.size, y.2)], by rw [List.append_assoc]; exact hdone, by rw [List.map_append]; rfl, by rw [List.map_append, List.map_append, hxs]; rfl, ?_, ?_⟩⟩
    · rintro x (hx | hx | hx) z
      · rw [List.mem_singleton] at hx; exact hCit (z.symm.trans hx)
      · rw [List.mem_singleton] at hx; exact hcC (hx.symm.trans z)
      · exact hbC (hx.symm.trans z)
    · have := congrArg List.length hxs
      rw [List.length_map, List.length_map] at this
      rw [List.length_map, sizeLine_eq]; omega
    · intro p hp
      rcases List.mem_append.mp hp with q | q
      · obtain ⟨z1, z2, z3, z4, ob, z5, z6⟩ := hx p q
        exact ⟨z1, z2, z3, z4, ob, e₉.keep _ _ z3 (hk₈ _ _ (e67.keep _ _ z4 (e6.keep _ _ z2 z5))), z6⟩
      · rw [List.mem_singleton] at q
        subst q
        exact ⟨e7.none hn₈, ne liveit, ne liveb, ne liveC, o₈, e₉.keep _ _ (ne liveb) ho₈, hi₈⟩
    · exact eff_new (e7.same e78) e₉ fun x z => by rw [z]; exact hbn
  · rintro ys s₅ s₆ k ⟨done, xs, hdone, rfl, hxs, hx, e5⟩ e6 hacc ⟨m', hm'⟩
    rw [List.append_nil] at hdone; subst hdone
    have e6' : Eff No s s₆ := eff_new e5 e6 fun x z => by rw [z]; exact hits
    refine post_none hm' fun s₇ e₇ => ?_
    exact hq s₇ b k xs (eff_new e6' e₇ fun x z => by rw [z]; exact hCn) hbn hsb (e₇.keep _ _ hbC hacc) hxs fun p hp => by
      obtain ⟨z1, z2, z3, z4, ob, z5, z6⟩ := hx p hp
      exact ⟨z1, ob, e₇.keep _ _ z4 (e6.keep _ _ z2 z5), z6⟩
end
end Dp
end
section
open PySem PySem.W PySem.Calls PyProof.Rows
namespace Dp
structure AskA (w : World) (s s₁ : Shared) (sz : Nat) (nb : Addr) (cs : List (List Int)) (vs : List Value) : Prop where
  ex : ∃ (cl1 rg va : Addr) (k : Nat) (xs : List (Addr × List Int)) (tr ur vr : Tok), vs = [.ref cl1, .ref rg, .ref va, .ref nb] ∧ Eff No s s₁ ∧ s.heap.objs.size ≤ cl1 ∧ IsRange s₁.heap rg 1 ((sz : Int) + 1) 1 tr ur vr ∧
    s₁.heap.get? cl1 = some (listO (xs.map fun p => Value.ref p.1).toArray k) ∧ xs.map (·.2) = cs ∧ (∀ p ∈ xs, ∃ o, s₁.heap.get? p.1 = some o ∧ IntSet w o p.2) ∧ s.heap.get? va = none ∧ (∃ ov, s₁.heap.get? va = some ov ∧ IntSet w ov []) ∧
    ∀ b, b = cl1 ∨ b = rg ∨ (∃ p ∈ xs, p.1 = b) → b ≠ va
def GenNew (prog : Program) (w : World) (A : Around) (sz : Nat) (cs : List (List Int)) (s s' : Shared) (gb : Addr) : Prop :=
  ∃ (CL : List (List Int)) (R : Addr → Prop) (gs : GenState), F2 (fun (q : List Int) c => c.Perm q) cs CL ∧ s'.heap.IsGen gb s.gens.size ∧ s'.gens = s.gens.push gs ∧ s'.os = s.os ∧ (∀ b o, s.heap.get? b = some o → s'.heap.get? b = some o) ∧
    s.heap.get? gb = none ∧ s.heap.objs.size ≤ s'.heap.objs.size ∧ (∀ x, R x → s.heap.get? x = none) ∧ (∀ x, R x → ∃ o, s'.heap.get? x = some o) ∧ ¬ R gb ∧
    ∀ s₂, On s.heap s₂.heap → (∀ x o, R x → s'.heap.get? x = some o → s₂.heap.get? x = some o) → GsOk prog w A.in1 s.heap CL sz nmx 200 [] R gs s₂
theorem f2_memR {α β : Type} {R : α → β → Prop} {l : List α} {m : List β} (x : F2 R l m) : ∀ b ∈ m, ∃ a ∈ l, R a b := by
  induction x with
  | nil => intro b h; cases h
  | cons r _ ih =>
    intro b h
    rcases List.mem_cons.mp h with rfl | h
    · exact ⟨_, List.mem_cons_self .., r⟩
    · obtain ⟨a, h1, h2⟩ := ih b h; exact ⟨a, List.mem_cons_of_mem _ h1, h2⟩
theorem f2_mapl {α β γ : Type} {R : γ → β → Prop} {f : α → γ} {l : List α} {m : List β} (x : F2 (fun a b => R (f a) b) l m) : F2 R (l.map f) m := by
  induction x with
  | nil => exact .nil
  | cons r _ ih => exact .cons r ih
section
variable {prog : Program} {w : World} {K : Frag} {B : Heap} {A : Around} {E : Value → Shared → Prop} {s s' s₁ s₂ : Shared} {L fa a l C : Addr} {cd : Value} {m m' mF : Str → Option Value} {h h' : Heap} {env : Env} {α : Type} {V : α → Value → Prop}
theorem Bas.up (G : Bas w K B) {h : Heap} (o : On B h) : Bas w K h := ⟨G.in o, let ⟨p, l, mg, mb, T⟩ := G.top; ⟨p, l, mg, mb, T.keeps o.keep⟩⟩
theorem Fr_on (F : Fr B L h m) (o : On h h') : Fr B L h' m := ⟨F.ns.at' fun ob q => o.keep _ ob q, fun b ob q => o.keep b ob (F.keep b ob q), F.above⟩
theorem ask_solver {kw : List (Str × Value)} {lf : Bool} {nb : Addr} {sz kn : Nat} {cs : List (List Int)} {vals vs : List Value} {pos : Pos} {pl : Sem Bool} {Q : Value → Shared → Prop} (G : Bas w K B) (kf : KF K) (F : Fr B L s.heap m) (rm : Rm A 10) (h4 : sz ≤ 4)
    (hkw : (kw = [] ∧ lf = false) ∨ ∃ t, kw = [(Str.ofString "clause_learning", Value.str "simple" t)] ∧ lf = true) (hcs : cs.length ≤ 5) (hC : ∀ c ∈ cs, FinC sz c)
    (hnl : s.heap.get? nb = some (listO vals.toArray kn)) (hvl : vals.length = sz) (hvn : ∀ i, i < sz → ∃ t, vals[i]? = some (.str (nmx i) t)) (a : AskA w s s₁ sz nb cs vs)
    (hq : ∀ s' gb, GenNew prog w A sz cs s s' gb → Q (.ref gb) s') :
    codeAny (model prog w) A (.call (.ref 207) ⟨vs, kw⟩) (fun r s₂ => match r with | .ok (.ret v) => wpAny (model prog w) A (getMethod v "_find_model" pl) (fun fx s₃ => wpAny (model prog w) A (callWith pos fx.1 fx.2 (backTo pos (starEach [] env)) []) Q E s₃) E s₂ | .ok _ => False | .error e => E e s₂) s₁ := by
  obtain ⟨cl1, rg, va, k, xs, tr, ur, vr, rfl, e₁, hbig, hr, hcl, hxs, hset, hva, hvs, hdis⟩ := a.ex
  have G' : Bas w K s.heap := G.up (frOn F)
  have o₁ : On s.heap s₁.heap := ⟨fun b o q => e₁.all q, Nat.le_of_lt (Nat.lt_of_le_of_lt hbig (Heap.lt_size hcl))⟩
  have hxl : xs.length ≤ 5 := by have := congrArg List.length hxs; rw [List.length_map] at this; omega
  have hxm : ∀ p ∈ xs, FinC sz p.2 := fun p hp => hC _ (by rw [← hxs]; exact List.mem_map_of_mem hp)
  refine call_solver (n := sz) (xs := xs) G' kf o₁ (rm.less (by omega)) hkw hvs hva ⟨_, hnl⟩ (by omega) hr hcl (fun p hp => ⟨hset p hp, by have := (hxm p hp).len; omega, (hxm p hp).ne, fun x hx => ((hxm p hp).g.lit x hx).1⟩) (by omega) hdis fun s₂ D adr CL hp ob dc hf hhp R g => ?_
  have hcl2 := g.eff.keep _ _ (hdis cl1 (.inl rfl)) hcl
  have o₂ : On s.heap s₂.heap := ⟨fun b o q => g.eff.keep b o (fun z => by rw [z, hva] at q; cases q) (e₁.all q), Nat.le_of_lt (Nat.lt_of_le_of_lt hbig (Heap.lt_size hcl2))⟩
  have F₂ := Fr_on F o₂
  obtain ⟨dx, es, kd, I, hg⟩ := R.h_not (x := "_find_model") (by decide)
  refine method_inst F₂ G.K I (by have := kf.S.plain; exact this) kf.fFM.find kf.fFM.fn.fn hg ?_
  refine callWith_of (P := K.In) rfl (keeps_K kf.fFM.fn.keep) (PyProof.Rows.evalArgs_none ⟨G.in (frOn F₂), wpAny_call ?_⟩)
  refine call_find_model G' kf o₂ R (rm.less (by omega)) fun s₃ Lg gb h1 h2 h3 h5 h6 h7 h8 h9 h10 F₃ => ?_
  have hcs2 : F2 (fun (q : List Int) c => c.Perm q) cs CL := hxs ▸ f2_mapl (f := fun p : Addr × List Int => p.2) hf
  have hCL : ∀ cl ∈ CL, cl ≠ [] ∧ cl.Nodup ∧ ∀ x ∈ cl, IsLit sz x := fun cl hcl => by
    obtain ⟨q, hq1, hq2⟩ := f2_memR hcs2 cl hcl
    have fc := hC q hq1
    exact ⟨fun z => fc.ne (by rw [z] at hq2; exact hq2.symm.eq_nil), hq2.nodup_iff.mpr fc.g.nd, fun x hx => (fc.g.lit x (hq2.mem_iff.mp hx)).1⟩
  obtain ⟨ini, i1, i2, i3, i4⟩ := finS_ini (ob := ob) (dc := dc) (nn := nb) (lf := lf) h4 (by rw [← hcs2.length]; exact hcs) hCL hhp
  have hs2 : ∀ {b}, s₂.heap.get? b = none → s.heap.get? b = none := fun {b} q => by
    cases z : s.heap.get? b with
    | none => rfl
    | some o => rw [o₂.keep b o z] at q; cases q
  have hg2 : s₂.gens = s.gens := g.eff.gens.trans e₁.gens
  refine hq s₃ gb ⟨CL, Dg D Lg, _, hcs2, by rw [← hg2]; exact h2, by rw [← hg2]; exact h1, h5.trans (g.eff.os.trans e₁.os), fun b o q => h3 b o (o₂.keep b o q), hs2 h6, ?_, ?_, ?_, ?_, fun s₄ o₄ keep₄ => ?_⟩
  · exact (frOn F₃.fr).size
  · rintro x (z | rfl | rfl)
    · exact R.off x z
    · exact hs2 h9
    · exact hs2 h10
  · rintro x (z | rfl | rfl)
    · obtain ⟨o, q⟩ := R.alive x z; exact ⟨o, h3 _ _ q⟩
    · exact Fr_live F₃.fr
    · exact IsCell.live F₃.cell
  · rintro (z | z | z)
    · obtain ⟨o, q⟩ := R.alive gb z; rw [h6] at q; cases q
    · exact h7 z
    · exact h8 z
  · have R₄ : Rep prog w s.heap D adr (finS sz CL hp ob dc lf nb) s₄.heap := R.keepD fun b o hd q => keep₄ b o (.inl hd) (h3 b o q)
    have F₄ : GF s.heap D adr Lg (fun _ => none) s₄.heap := by
      refine ⟨⟨F₃.fr.ns.at' fun o q => keep₄ Lg o (.inr (.inl rfl)) q, o₄.keep, F₃.fr.above⟩, ?_, F₃.nL, F₃.nc, F₃.Bc⟩
      obtain ⟨oc, q, z⟩ := F₃.cell
      exact ⟨oc, keep₄ _ _ (.inr (.inr rfl)) q, z⟩
    have hN : Names nmx sz s.heap nb := ⟨⟨vals, kn, hnl, hvl, hvn⟩, fun i j hi hj => nmx_inj i j (by omega) (by omega)⟩
    exact genStart (prog := prog) (w := w) (A := A.in1) (B := s.heap) G' kf (rm.in1 (d := 9)) (fun cl hcl => (hCL cl hcl).1) hN ⟨R₄, F₄, i1, h4, i2⟩ ini (by rw [i3, ← hcs2.length]; omega) (by rw [i4, hhp.length_eq, litsOf_length]; omega)
end
end Dp
end
section
open PySem PySem.W PySem.Calls PyProof.Rows
namespace Dp
section
variable {prog : Program} {w : World} {K : Frag} {B : Heap} {A : Around} {E : Value → Shared → Prop} {s s' s₁ s₂ : Shared} {L fa a l C : Addr} {cd : Value} {m m' mF : Str → Option Value} {h h' : Heap} {env : Env} {α : Type} {V : α → Value → Prop}
structure Laid5 (s : Shared) (L : Addr) (m : Str → Option Value) (sz : Nat) (outs : List (Addr × List Int)) (nb : Addr) (kn : Nat) (vals : List Value) : Prop where
  size : ∃ tz, m "size" = some (.int sz tz)
  h1 : 1 ≤ sz
  h4 : sz ≤ 4
  cl : ∃ cl0 k0, s.heap.IsCell (L + 1) (some (.ref cl0)) ∧ s.heap.get? cl0 = some (listO (outs.map fun p => Value.ref p.1).toArray k0)
  z : outs.length ≤ 5
  out : ∀ q ∈ outs, FinC sz q.2 ∧ ∃ oc, s.heap.get? q.1 = some oc ∧ IntList oc q.2
  nm : s.heap.IsCell (L + 2) (some (.ref nb))
  nl : s.heap.get? nb = some (listO vals.toArray kn)
  vl : vals.length = sz
  vn : ∀ i, i < sz → ∃ t, vals[i]? = some (.str (nmx i) t)
theorem ask_args {sz nb kn : Nat} {outs : List (Addr × List Int)} {vals : List Value} {a1 a2 a3 b1 b2 c1 r1 r2 r3 r4 r5 r6 u1 u2 n1 pos : Pos} {k1 k2 : Nat} {Q : List Value → Shared → Prop} (G : Bas w K B) (kf : KF K) (F : Fr B L s.heap m) (hh : A.handled = none) (D : Laid5 s L m sz outs nb kn vals)
    (hq : ∀ s₁ vs, AskA w s s₁ sz nb (outs.map (·.2)) vs → Q vs s₁) :
    wpAny (model prog w) A (spliced (backTo pos (starEach [.ListComp (.Call (.Name "set" a1) [.Name "clause" a2] [] a3) [⟨.Name "clause" b1, .Name "clauses" b2, [], 0⟩] setsSc c1,
      .Call (.Name "range" r1) [.Constant (.int 1) k1 r2, .BinOp (.Name "size" r3) .Add (.Constant (.int 1) k2 r4) r5] [] r6,
      .Call (.Name "set" u1) [] [] u2, .Name "names" n1] (lawEnv fa cd L)))) Q E s := by
  obtain ⟨tz, hms⟩ := D.size
  obtain ⟨cl0, k0, hc, hl⟩ := D.cl
  refine args_cons (eval_sets G kf F hh hc hl D.z D.out fun s₁ b k xs e₁ hbn hbig hb1 hxs hset => ?_) se_lc
  have F₁ := Fr_no F e₁
  refine args_cons (Call_ (Nm.name (Nm.bui G kf (frOn F₁)) (PyProof.Rows.callWith_type1 ?_))) se_call
  refine args_cons (wpAny_Constant_int ?_) se_const
  refine args_cons (wpAny_BinOp (ldN (s := ⟨s₁.heap, s₁.gens, s₁.drawn, _, s₁.os⟩) F₁ hms (wpAny_Constant_int (PyProof.Rows.add_int (args_nil ?_))))) se_bin
  refine call_range2 fun s₂ r tr ur vr hr0 hr e₂ => ?_
  have e12 : Eff No s₁ s₂ := ⟨fun b o n q => e₂.keep b o n q, e₂.gens, e₂.os⟩
  have e02 : Eff No s s₂ := e₁.same e12
  have F₂ := Fr_no F e02
  refine args_cons (Call_ (Nm.name (Nm.bui G kf (frOn F₂)) (callWith_type0 (call_set0 (w := w) ?_)))) se_call
  have hva1 : (s₂.heap.push (setNew w)).get? s₂.heap.objs.size = some (setNew w) := Heap.get?_push_size _ rfl
  have hva0 : s₂.heap.get? s₂.heap.objs.size = none := new_none
  generalize s₂.heap.objs.size = va at hva1 hva0 ⊢
  have e23 : Eff No s₂ { s₂ with heap := s₂.heap.push (setNew w) } := ⟨fun b o _ q => Heap.get?_push_of_some _ q, rfl, rfl⟩
  have e03 := e02.same e23
  refine args_cons (Nm.name (Nm.cell (IsCell.eff D.nm e03 id) rfl) (args_nil ?_)) se_name
  have hb2 := e12.all hb1
  refine hq _ _ ⟨b, r, va, k, xs, tr, ur, vr, rfl, e03, hbig, e23.all hr, e23.all hb2, hxs, fun p hp => ?_, e02.none hva0, ⟨_, hva1, setNew_is⟩, ?_⟩
  · obtain ⟨_, o, q1, q2⟩ := hset p hp
    exact ⟨o, e23.all (e12.all q1), q2⟩
  · rintro x (rfl | rfl | ⟨p, hp, rfl⟩) z
    · rw [z, hva0] at hb2; cases hb2
    · rw [IsRange, z, hva0] at hr; cases hr
    · obtain ⟨_, o, q1, q2⟩ := hset p hp
      have := e12.all q1
      rw [z, hva0] at this; cases this
theorem eval_ask {sz nb kn : Nat} {lf : Bool} {kws : List Keyword} {outs : List (Addr × List Int)} {vals : List Value} {a1 a2 a3 b1 b2 c1 r1 r2 r3 r4 r5 r6 u1 u2 n1 s1 p1 p2 p3 : Pos} {k1 k2 : Nat} {Q : Value → Shared → Prop} (G : Bas w K B) (kf : KF K) (F : Fr B L s.heap m) (rm : Rm A 10) (D : Laid5 s L m sz outs nb kn vals)
    (hkw : (kws = [] ∧ lf = false) ∨ (∃ k t kp, kws = [⟨some (Str.ofString "clause_learning"), .Constant (.str (Str.ofString "simple")) k t, kp⟩] ∧ lf = true))
    {pl : Sem Bool} (hm : eval (.Call (.Attribute (.Call (.Name "SATSolver" s1) [.ListComp (.Call (.Name "set" a1) [.Name "clause" a2] [] a3) [⟨.Name "clause" b1, .Name "clauses" b2, [], 0⟩] setsSc c1,
      .Call (.Name "range" r1) [.Constant (.int 1) k1 r2, .BinOp (.Name "size" r3) .Add (.Constant (.int 1) k2 r4) r5] [] r6,
      .Call (.Name "set" u1) [] [] u2, .Name "names" n1] kws p1) "_find_model" p2) [] [] p3) (lawEnv fa cd L) = (do
      let ov ← eval (.Call (.Name "SATSolver" s1) [.ListComp (.Call (.Name "set" a1) [.Name "clause" a2] [] a3) [⟨.Name "clause" b1, .Name "clauses" b2, [], 0⟩] setsSc c1,
      .Call (.Name "range" r1) [.Constant (.int 1) k1 r2, .BinOp (.Name "size" r3) .Add (.Constant (.int 1) k2 r4) r5] [] r6,
      .Call (.Name "set" u1) [] [] u2, .Name "names" n1] kws p1) (lawEnv fa cd L)
      standAt p2.atName
      let (f, first) ← holding [ov] (getMethod ov "_find_model" pl)
      callWith p3 f first (backTo p3 (starEach [] (lawEnv fa cd L))) []))
    (hq : ∀ s' gb, GenNew prog w A sz (outs.map (·.2)) s s' gb → Q (.ref gb) s') :
    wpAny (model prog w) A (eval (.Call (.Attribute (.Call (.Name "SATSolver" s1) [.ListComp (.Call (.Name "set" a1) [.Name "clause" a2] [] a3) [⟨.Name "clause" b1, .Name "clauses" b2, [], 0⟩] setsSc c1,
      .Call (.Name "range" r1) [.Constant (.int 1) k1 r2, .BinOp (.Name "size" r3) .Add (.Constant (.int 1) k2 r4) r5] [] r6,
      .Call (.Name "set" u1) [] [] u2, .Name "names" n1] kws p1) "_find_model" p2) [] [] p3) (lawEnv fa cd L)) Q E s := by
  have hC : ∀ c ∈ outs.map (·.2), FinC sz c := fun c hc => by obtain ⟨q, hq, rfl⟩ := List.mem_map.mp hc; exact (D.out q hq).1
  have hcs : (outs.map (·.2)).length ≤ 5 := by rw [List.length_map]; exact D.z
  refine MethodCall_ ?_ hm
  rcases hkw with ⟨rfl, rfl⟩ | ⟨k, t, kp, rfl, rfl⟩
  · refine Call_ (Nm.name (Nm.glo G (frOn F) kf.gSAT) ?_)
    refine callWith_of (P := K.In) rfl (keeps_K kf.keepS) (evalArgs_pl (ask_args G kf F rm.hh D fun s₁ vs a => ?_) se_lc)
    obtain ⟨_, _, _, _, _, _, _, _, _, e₁, _⟩ := a.ex
    refine ⟨G.in (frOn (Fr_no F e₁)), wpAny_call ?_⟩
    exact ask_solver G kf F rm D.h4 (.inl ⟨rfl, rfl⟩) hcs hC D.nl D.vl D.vn a hq
  · refine Call_kw (Nm.name (Nm.glo G (frOn F) kf.gSAT) ?_)
    refine callWith_of (P := K.In) rfl (keeps_K kf.keepS) (evalArgs_kw2 rfl (ask_args G kf F rm.hh D fun s₁ vs a => ?_) se_lc)
    obtain ⟨_, _, _, _, _, _, _, _, _, e₁, _⟩ := id a.ex
    have a' : AskA w s ⟨s₁.heap, s₁.gens, s₁.drawn, s₁.toks + 1, s₁.os⟩ sz nb (outs.map (·.2)) vs := by
      obtain ⟨x1, x2, x3, x4, x5, x6, x7, x8, x9, y1, y2⟩ := a.ex
      exact ⟨x1, x2, x3, x4, x5, x6, x7, x8, x9, ⟨y1.keep, y1.gens, y1.os⟩, y2⟩
    have o₁ : On B s₁.heap := (frOn (Fr_no F e₁))
    refine kwAll_cons (wpAny_Constant_str (kwAll_nil ⟨G.in o₁, wpAny_call ?_⟩))
    exact ask_solver G kf F rm D.h4 (.inr ⟨_, rfl, rfl⟩) hcs hC D.nl D.vl D.vn a' hq
end
end Dp
end
section
open PySem PySem.W PySem.Calls PyProof.Rows
namespace Dp
abbrev tEnv (fa : Addr) (cd : Value) (L C : Addr) : Env := cEnv tellSc [(Str.ofString "names", L + 2)] C (lawEnv fa cd L)
abbrev rEnv (fa : Addr) (cd : Value) (L C C2 : Addr) : Env := cEnv rowSc [(Str.ofString "model", C + 1)] C2 (tEnv fa cd L C)
theorem range_map_getD {ρ : List Bool} {n : Nat} (h : ρ.length = n) : (List.range n).map (fun k => Value.bool (ρ.getD k false)) = ρ.map Value.bool := by
  subst h
  apply List.ext_getElem
  · simp
  · intro i h1 h2
    have : i < ρ.length := by simpa using h2
    simp [this]
section
variable {prog : Program} {w : World} {K : Frag} {B : Heap} {A : Around} {E : Value → Shared → Prop} {s s' s₁ s₂ : Shared} {L fa a l C : Addr} {cd : Value} {m m' mF : Str → Option Value} {h h' : Heap} {env : Env} {α : Type} {V : α → Value → Prop}
theorem itemStr {value slice : PySem.Expr} {a : Addr} {kvs : List (Str × Value)} {k : Str} {u : Tok} {v : Value} {Q : Value → Shared → Prop} (d : s.heap.DictOf (strKind prog w) a kvs) (e : valueAt kvs k = some v)
    (hq : Q v { s with toks := s.toks + 1 }) (hs : subscripted slice false (.ref a) (.str k u) = operate [.ref a, .str k u] (getItem (.ref a) (.str k u)) := by with_unfolding_all rfl) :
    wpAny (model prog w) A (subscriptTail value slice (.ref a) (.str k u)) Q E s :=
  tail_any d.typeIs slot_dict_getitem.lookup (wpAny_getItem_of (strKind_is _ _ _ _) d.mapOf e hq) hs
theorem RowDict.at {nm : Nat → Str} {n : Nat} {b : Addr} {ρ : List Bool} (x : RowDict prog w nm n h b ρ) (k : ∀ o, h.get? b = some o → h'.get? b = some o) : RowDict prog w nm n h' b ρ := let ⟨kvs, a, r⟩ := x; ⟨kvs, a.at k, r⟩
theorem eval_row {sz nb kn : Nat} {b : Addr} {ρ : List Bool} {vals : List Value} {a1 a2 a3 b1 b2 c1 : Pos} {Q : Value → Shared → Prop} (hh : A.handled = none) (hd : RowDict prog w nmx sz s.heap b ρ) (hρ : ρ.length = sz) (h4 : sz ≤ 4) (hm : s.heap.IsCell (C + 1) (some (.ref b))) (hn : s.heap.IsCell (L + 2) (some (.ref nb))) (hnl : s.heap.get? nb = some (listO vals.toArray kn)) (hvl : vals.length = sz) (hvn : ∀ i, i < sz → ∃ t, vals[i]? = some (.str (nmx i) t))
    (hq : ∀ s' r k, Eff No s s' → s.heap.get? r = none → s'.heap.get? r = some (listO (ρ.map Value.bool).toArray k) → Q (.ref r) s') :
    wpAny (model prog w) A (eval (.ListComp (.Subscript (.Name "model" a1) (.Name "name" a2) a3) [⟨.Name "name" b1, .Name "names" b2, [], 0⟩] rowSc c1) (tEnv fa cd L C)) Q E s := by
  rw [eval_ListComp]
  have h1 : closureFor rowSc (tEnv fa cd L C) = pure [(Str.ofString "model", C + 1)] := by rfl
  have hf : F2 (fun (i : Nat) v => ∃ t, v = .str (nmx i) t) (List.range sz) vals := by
    have gen : ∀ (n : Nat) (vs : List Value) (o : Nat), vs.length = n → (∀ i, i < n → ∃ t, vs[i]? = some (.str (nmx (o + i)) t)) → F2 (fun (i : Nat) v => ∃ t, v = .str (nmx i) t) ((List.range' o n)) vs := by
      intro n
      induction n with
      | zero => intro vs o hl _; rw [List.length_eq_zero_iff.mp hl]; exact .nil
      | succ n ih =>
        intro vs o hl hv
        match vs, hl with
        | v :: vs, hl =>
          rw [List.range'_succ]
          obtain ⟨t, ht⟩ := hv 0 (by omega)
          refine .cons ⟨t, by simpa using ht⟩ (ih vs (o + 1) (by simpa using hl) fun i hi => ?_)
          obtain ⟨t, ht⟩ := hv (i + 1) (by omega)
          exact ⟨t, by rw [List.getElem?_cons_succ] at ht; rw [ht, show o + (i + 1) = o + 1 + i by omega]⟩
    rw [List.range_eq_range']
    exact gen sz vals 0 hvl fun i hi => by rw [Nat.zero_add]; exact hvn i hi
  refine lcomp (V := fun (i : Nat) v => ∃ t, v = .str (nmx i) t) hh h1 rfl (by decide) (by intro _; rfl) ?_
  refine Nm.name (Nm.cell hn rfl) ?_
  refine iter_list (V := fun (i : Nat) v => ∃ t, v = .str (nmx i) t) (xs := List.range sz) (listO_is hnl) hf fun s₂ it T e02 hits IT hT => ?_
  refine ⟨it, [it], [nb], T, _, rfl, IT, hT, fun bb C2 hb hC hbC s₃ e₃ hp3 hCe hbe => ?_⟩
  have e03 := e02.same e₃
  have hbn := e02.none hb
  have hCn := e02.none hC
  have hCit : C2 ≠ it := fun z => by obtain ⟨oo, q⟩ := IT.live hT it IT.mem; rw [← z, hC] at q; cases q
  have hnb2 : ∃ o, s₂.heap.get? nb = some o := ⟨_, e02.all hnl⟩
  have hnbb : nb ≠ bb := fun z => by obtain ⟨oo, q⟩ := hnb2; rw [z, hb] at q; cases q
  have hnbC : nb ≠ C2 := fun z => by obtain ⟨oo, q⟩ := hnb2; rw [z, hC] at q; cases q
  refine ⟨fun r ys s' => ∃ done : List Nat, done ++ r = List.range sz ∧ ys = done.map (fun k => Value.bool (ρ.getD k false)) ∧ Eff No s s', ⟨[], rfl, rfl, e03⟩, ?_, ?_, by simpa using Ne.symm hnbC, by simpa using Ne.symm hnbb⟩
  · rintro y r ys s₅ s₆ v m' k ⟨done, hdone, rfl, e5⟩ ⟨tk, rfl⟩ e6 hC6 hlive hacc
    have e6' : Eff No s s₆ := eff_new e5 e6 fun x z => by rw [z]; exact hits
    refine wpAny_assign_Name (wpAny_storeName_local (by rfl) hC6 (fun h₇ hn7 sb₇ => ?_) (by rfl))
    refine wpAny_tests_nil ?_
    rw [if_pos rfl]
    have e67 : Eff (fun x => x = C2) s₆ { s₆ with heap := h₇, toks := s₆.toks + 1 } := sb_eff sb₇ rfl
    generalize hs7 : ({ s₆ with heap := h₇, toks := s₆.toks + 1 } : Shared) = s₇ at e67
    have hn7' : s₇.heap.Ns C2 (fun z => if z = Str.ofString "name" then some (.str (nmx y) tk) else m' z) := by subst hs7; exact hn7
    have e7 : Eff No s s₇ := eff_new e6' e67 fun x z => by rw [z]; exact hCn
    obtain ⟨kvs, hd1, hd2, hd3⟩ := hd.at fun o q => e7.all q
    have hyr : y ∈ List.range sz := by rw [← hdone]; simp
    have hys : y < sz := List.mem_range.mp hyr
    refine Subscript_ (Nm.name (Nm.cell (IsCell.eff hm e7 id) rfl) (Nm.name (Nm.loc hn7' (if_pos rfl)) ?_))
    refine itemStr hd1 (hd3 y hys) ?_
    have e78 : Eff No s₇ ⟨s₇.heap, s₇.gens, s₇.drawn, s₇.toks + 1, s₇.os⟩ := ⟨fun b o _ q => q, rfl, rfl⟩
    have hdl : done.length + 1 ≤ sz := by have := congrArg List.length hdone; simp at this; omega
    refine ⟨fun x => x = C2, _, ⟨e67.keep, e67.gens, e67.os⟩, ?_, hn7', ?_, fun s₉ e₉ => ⟨done ++ [y], by rw [List.append_assoc]; exact hdone, by rw [List.map_append]; rfl, ?_⟩⟩
    · rintro x (hx | hx | hx) z
      · rw [List.mem_singleton] at hx; exact hCit (z.symm.trans hx)
      · rw [List.mem_singleton] at hx; exact hnbC (hx.symm.trans z)
      · exact hbC (hx.symm.trans z)
    · rw [List.length_map, sizeLine_eq]; omega
    · exact eff_new (e7.same e78) e₉ fun x z => by rw [z]; exact hbn
  · rintro ys s₅ s₆ k ⟨done, hdone, rfl, e5⟩ e6 hacc ⟨m', hm'⟩
    rw [List.append_nil] at hdone
    have e6' : Eff No s s₆ := eff_new e5 e6 fun x z => by rw [z]; exact hits
    refine post_none hm' fun s₇ e₇ => ?_
    refine hq s₇ bb k (eff_new e6' e₇ fun x z => by rw [z]; exact hCn) hbn ?_
    rw [← range_map_getD hρ, ← hdone]
    exact e₇.keep _ _ hbC hacc
end
end Dp
end
section
open PySem PySem.W PySem.Calls PyProof.Rows
namespace Dp
theorem push_setIf {α : Type} (g : Array α) (a x : α) : (g.push a).setIfInBounds g.size x = g.push x := by
  apply Array.ext
  · simp
  · intro i h1 h2
    rw [Array.getElem_setIfInBounds]
    · rw [Array.getElem_push, Array.getElem_push]
      split
      · rename_i h; subst h; simp
      · rename_i h
        have : i < g.size := by rw [Array.size_push] at h2; omega
        rw [dif_pos this, dif_pos this]
    · simpa using h2
def LI (prog : Program) (w : World) (A : Around) (B : Heap) (g0 : Array GenState) (s0 : Shared) (CL : List (List Int)) (sz : Nat) (gb b C : Addr) (n : Nat) (s' : Shared) : Prop :=
  ∃ (hist : List (List Bool)) (R : Addr → Prop) (gs : GenState) (as : List Addr) (k : Nat) (m : Str → Option Value) (v : Option Value),
    hist.length + n ≤ 200 ∧ (∀ s₂, On B s₂.heap → (∀ x o, R x → s'.heap.get? x = some o → s₂.heap.get? x = some o) → GsOk prog w A.in1 B CL sz nmx n hist R gs s₂) ∧
    s'.gens = g0.push gs ∧ s'.os = s0.os ∧ On B s'.heap ∧ s'.heap.IsGen gb g0.size ∧ (∀ x, R x → B.get? x = none) ∧ (¬ R gb ∧ ¬ R b ∧ ¬ R C ∧ ¬ R (C + 1)) ∧
    s'.heap.get? b = some (listO (as.map Value.ref).toArray k) ∧ s'.heap.Ns C m ∧ s'.heap.IsCell (C + 1) v ∧
    F2 (fun a ρ => (∃ k, s'.heap.get? a = some (listO (ρ.map Value.bool).toArray k)) ∧ ρ.length = sz ∧ ¬ R a ∧ B.get? a = none ∧ a ≠ b ∧ a ≠ C ∧ a ≠ C + 1) as hist
section
variable {prog : Program} {w : World} {K : Frag} {B : Heap} {A : Around} {E : Value → Shared → Prop} {s s0 s' s₁ s₂ : Shared} {L fa a l C : Addr} {cd : Value} {m m' mF : Str → Option Value} {h h' : Heap} {env : Env} {α : Type} {V : α → Value → Prop}
theorem gen_loop {g0 : Array GenState} {CL : List (List Int)} {sz nb kn : Nat} {gb b : Addr} {vals : List Value} {IT : PySem.Expr} {a1 a2 a3 b1 b2 c1 d1 d2 : Pos} {use : Option (Value → Sem Unit)} {Q : Value → Shared → Prop} (G : Bas w K B) (hh : A.handled = none) (hroom : A.depth < recursionLimit) (h4 : sz ≤ 4)
    (hne : gb ≠ b ∧ gb ≠ C ∧ gb ≠ C + 1) (hbC : b ≠ C ∧ b ≠ C + 1) (hBn : B.get? b = none ∧ B.get? C = none ∧ B.get? (C + 1) = none) (hbig : B.objs.size ≤ b)
    (hn : B.IsCell (L + 2) (some (.ref nb))) (hnl : B.get? nb = some (listO vals.toArray kn)) (hvl : vals.length = sz) (hvn : ∀ i, i < sz → ∃ t, vals[i]? = some (.str (nmx i) t))
    (hI : LI prog w A B g0 s0 CL sz gb b C 200 s)
    (done : ∀ s' (hist : List (List Bool)) (as : List Addr) k m, Over CL sz hist → s'.gens = g0.push .finished → s'.os = s0.os → On B s'.heap → s'.heap.get? b = some (listO (as.map Value.ref).toArray k) → s'.heap.Ns C m →
      F2 (fun a ρ => (∃ k, s'.heap.get? a = some (listO (ρ.map Value.bool).toArray k)) ∧ ρ.length = sz ∧ B.get? a = none ∧ a ≠ b ∧ a ≠ C) as hist → compPost (model prog w) A E use Q (.ref b) C (.ok .next) s') :
    codeAny (model prog w) A (.compLoop (.ListComp (.ListComp (.Subscript (.Name "model" a1) (.Name "name" a2) a3) [⟨.Name "name" b1, .Name "names" b2, [], 0⟩] rowSc c1) [⟨.Name "model" d1, IT, [], 0⟩] tellSc d2) 0 (.ref gb) (.ref b) (tEnv fa cd L C)) (compPost (model prog w) A E use Q (.ref b) C) s := by
  refine codeAny_compLoop_tests (fun n s => LI prog w A B g0 s0 CL sz gb b C n s) (fun n s hs => ?_) 200 hI
  obtain ⟨hist, R, gs, as, k, m, v, hlen, hok, hgens, hos, o, hgen, hRB, ⟨nRg, nRb, nRC, nRc⟩, hb, hC, hc, hf⟩ := hs
  have hgs : s.gens[g0.size]? = some gs := by rw [hgens]; simp
  have hsizeOf : ∀ {h : Heap} {ob : Obj}, h.get? b = some ob → B.objs.size ≤ h.objs.size := fun q => Nat.le_of_lt (Nat.lt_of_le_of_lt hbig (Heap.lt_size q))
  refine next_gen (k := n) (hist := hist) (R := R) (CL := CL) (nn := sz) (nm := nmx) (B := B) hh (G.nolimit o) hroom hgen hgs (hok _ o fun x ob _ q => q) ?_ ?_
  · intro s₁ ρ R' b' gs' n' hn' hrow hρ nRb' hb' g hRB' hal' hok'
    subst hn'
    have keepR : ∀ {c ob}, ¬ R c → s.heap.get? c = some ob → s₁.heap.get? c = some ob := fun {c ob} n q => g.eff.keep c ob n q
    have nR' : ∀ {c}, ¬ R c → (∃ o, s.heap.get? c = some o) → ¬ R' c := fun n a => g.notin n a
    have hb1 := keepR nRb hb
    have hC1 : s₁.heap.Ns C m := hC.at' fun ob q => keepR nRC q
    have hc1 : s₁.heap.IsCell (C + 1) v := by obtain ⟨oc, q, r⟩ := hc; exact ⟨oc, keepR nRc q, r⟩
    have hbc' : b' ≠ C + 1 := fun z => by obtain ⟨oc, q⟩ := IsCell.live hc; rw [← z, hb'] at q; cases q
    have gens1 : (s₁.setGen g0.size gs').gens = g0.push gs' := by
      show s₁.gens.setIfInBounds _ _ = _
      rw [g.eff.gens]
      show ((s.gens.setIfInBounds _ _).setIfInBounds _ _) = _
      rw [hgens, push_setIf, push_setIf]
    have os1 : (s₁.setGen g0.size gs').os = s0.os := (show s₁.os = _ from g.eff.os).trans hos
    have o1 : ∀ x ob, B.get? x = some ob → s₁.heap.get? x = some ob := fun x ob q => keepR (fun z => by rw [hRB x z] at q; cases q) (o.keep x ob q)
    refine wpAny_assign_Name (wpAny_storeName_cell (s := s₁.setGen g0.size gs') (env := tEnv fa cd L C) (c := C + 1) rfl (by rfl) rfl hc1 fun h₂ hc2 sb₂ => ?_)
    refine wpAny_tests_nil ?_
    rw [if_pos rfl]
    replace sb₂ : Heap.SameBut (C + 1) s₁.heap h₂ := sb₂
    generalize hs2 : ({ s₁.setGen g0.size gs' with heap := h₂ } : Shared) = s₂
    have hh2 : s₂.heap = h₂ := by rw [← hs2]
    rw [← hh2] at hc2 sb₂
    have k12 : ∀ {c ob}, c ≠ C + 1 → s₁.heap.get? c = some ob → s₂.heap.get? c = some ob := fun n q => (sb₂.2 _ n).trans q
    have nBc : ∀ {x ob}, B.get? x = some ob → x ≠ C + 1 := fun q z => by rw [z, hBn.2.2] at q; cases q
    have gens2 : s₂.gens = g0.push gs' := by rw [← hs2]; exact gens1
    have os2 : s₂.os = s0.os := by rw [← hs2]; exact os1
    have o2 : On B s₂.heap := ⟨fun x ob q => k12 (nBc q) (o1 x ob q), hsizeOf (k12 hbC.2 hb1)⟩
    have hn2 : s₂.heap.IsCell (L + 2) (some (.ref nb)) := by obtain ⟨oc, q, r⟩ := hn; exact ⟨oc, o2.keep _ _ q, r⟩
    refine eval_row (b := b') (ρ := ρ) hh (hrow.at fun ob q => k12 hbc' q) hρ h4 hc2 hn2 (o2.keep _ _ hnl) hvl hvn fun s₃ r k₃ e₃ hr0 hr1 => ?_
    have hb3 := e₃.all (k12 hbC.2 hb1)
    have hasl : as.length = hist.length := hf.length
    refine list_push hb3 (by rw [List.size_toArray, List.length_map, sizeLine_eq]; omega) fun h₄ k₄ sb₄ ho₄ => ?_
    have hrb : r ≠ b := fun z => by rw [z, k12 hbC.2 hb1] at hr0; cases hr0
    have hrC : r ≠ C := fun z => by
      obtain ⟨oC, _, _, q, _⟩ := hC1
      rw [z, k12 (Ne.symm (Nat.succ_ne_self C)) q] at hr0; cases hr0
    have hrc : r ≠ C + 1 := fun z => by obtain ⟨oc, q⟩ := IsCell.live hc2; rw [z, q] at hr0; cases hr0
    have hrB : B.get? r = none := o2.none hr0
    have nRr : ¬ R' r := fun z => by
      obtain ⟨ob, q⟩ := hal' r z
      rw [k12 hrc q] at hr0; cases hr0
    have k24 : ∀ {c ob}, c ≠ b → s₂.heap.get? c = some ob → h₄.get? c = some ob := fun {c ob} n q => (sb₄.2 c n).trans (e₃.all q)
    have k14 : ∀ {c ob}, c ≠ b → c ≠ C + 1 → s₁.heap.get? c = some ob → h₄.get? c = some ob := fun n1 n2 q => k24 n1 (k12 n2 q)
    refine ⟨n', Nat.lt_succ_self _, hist ++ [ρ], R', gs', as ++ [r], k₄, m, some (.ref b'), by simp; omega, fun s₅ o₅ k₅ => hok' s₅ o₅ fun x ob z q => k₅ x ob z (k14 ?_ ?_ q), ?_, ?_, ?_, ?_, hRB', ⟨?_, ?_, ?_, ?_⟩, ?_, ?_, ?_, ?_⟩
    · exact fun y => nR' nRb ⟨_, hb⟩ (y ▸ z)
    · exact fun y => nR' nRc (IsCell.live hc) (y ▸ z)
    · exact (e₃.gens).trans gens2
    · exact (e₃.os).trans os2
    · exact ⟨fun x ob q => k24 (fun z => by rw [z, hBn.1] at q; cases q) (o2.keep x ob q), hsizeOf ho₄⟩
    · obtain ⟨og, x1, x2, q, r⟩ := hgen
      exact ⟨og, x1, x2, k14 hne.1 hne.2.2 (keepR nRg q), r⟩
    · exact nR' nRg (let ⟨og, _, _, q, _⟩ := hgen; ⟨_, q⟩)
    · exact nR' nRb ⟨_, hb⟩
    · exact nR' nRC (let ⟨oC, _, _, q, _⟩ := hC; ⟨oC, q⟩)
    · exact nR' nRc (IsCell.live hc)
    · rw [ho₄]; simp
    · exact hC1.at' fun ob q => k14 (Ne.symm hbC.1) (Ne.symm (Nat.succ_ne_self C)) q
    · obtain ⟨oc, q, r⟩ := hc2; exact ⟨oc, k24 (Ne.symm hbC.2) q, r⟩
    · refine F2.append (hf.imp fun a σ ⟨⟨k, x1⟩, x2, x3, x4, x5, x6, x7⟩ => ⟨⟨k, k14 x5 x7 (keepR x3 x1)⟩, x2, nR' x3 ⟨_, x1⟩, x4, x5, x6, x7⟩) (.cons ⟨⟨k₃, (sb₄.2 r hrb).trans hr1⟩, hρ, nRr, hrB, hrb, hrC, hrc⟩ .nil)
  · intro s₁ h' ov ef keep
    have keepR : ∀ {c ob}, ¬ R c → s.heap.get? c = some ob → h'.get? c = some ob := fun {c ob} n q => keep c ob (ef.keep c ob n q)
    refine done _ hist as k m ov ?_ ((show s₁.os = _ from ef.os).trans hos) ⟨fun x ob q => keepR (fun z => by rw [hRB x z] at q; cases q) (o.keep x ob q), hsizeOf (keepR nRb hb)⟩ (keepR nRb hb) (hC.at' fun ob q => keepR nRC q) (hf.imp fun a σ ⟨⟨k, x1⟩, x2, x3, x4, x5, x6, x7⟩ => ⟨⟨k, keepR x3 x1⟩, x2, x4, x5, x6⟩)
    show s₁.gens.setIfInBounds _ _ = _
    rw [ef.gens]
    show ((s.gens.setIfInBounds _ _).setIfInBounds _ _) = _
    rw [hgens, push_setIf, push_setIf]
end
end Dp
end
section
open PySem PySem.W PySem.Calls PyProof.Rows
namespace Dp
section
variable {prog : Program} {w : World} {K : Frag} {B : Heap} {A : Around} {E : Value → Shared → Prop} {s s0 s' s₁ s₂ : Shared} {L fa a l C : Addr} {cd : Value} {m m' mF : Str → Option Value} {h h' : Heap} {env : Env} {α : Type} {V : α → Value → Prop}
theorem law_tell {x : Str} {IT : PySem.Expr} {sz nb kn : Nat} {outs : List (Addr × List Int)} {vals : List Value} {a1 a2 a3 b1 b2 c1 d1 d2 p0 px : Pos} {Q : Value → Shared → Prop} (G : Bas w K B) (kf : KF K) (F : Fr B L s.heap m) (rm : Rm A 10) (D : Laid5 s L m sz outs nb kn vals)
    (hask : ∀ {Q : Value → Shared → Prop}, (∀ s' gb, GenNew prog w A sz (outs.map (·.2)) s s' gb → Q (.ref gb) s') → wpAny (model prog w) A (eval IT (lawEnv fa cd L)) Q E s)
    (hfold : ∀ v, foldedSetIterable IT (lawEnv fa cd L) v = pure v) (hx : (lawEnv fa cd L).kindOf x = some .local)
    (hq : ∀ s' tb k (as : List Addr) (hist : List (List Bool)) (CL : List (List Int)), F2 (fun (q : List Int) c => c.Perm q) (outs.map (·.2)) CL → Over CL sz hist → Fr B L s'.heap (updS m x (.ref tb)) → s'.gens = s.gens.push .finished → s'.os = s.os → (∀ b o, b ≠ L → s.heap.get? b = some o → s'.heap.get? b = some o) → s.heap.get? tb = none →
      s'.heap.get? tb = some (listO (as.map Value.ref).toArray k) → F2 (fun a ρ => (∃ k, s'.heap.get? a = some (listO (ρ.map Value.bool).toArray k)) ∧ ρ.length = sz ∧ s.heap.get? a = none) as hist → Q .none s') :
    wpAny (model prog w) A (comprehension (.ListComp (.ListComp (.Subscript (.Name "model" a1) (.Name "name" a2) a3) [⟨.Name "name" b1, .Name "names" b2, [], 0⟩] rowSc c1) [⟨.Name "model" d1, IT, [], 0⟩] tellSc d2) tellSc (lawEnv fa cd L) p0 (newList []) false (eval IT (lawEnv fa cd L)) (some (assign (.Name x px) (lawEnv fa cd L)))) Q E s := by
  have h1 : closureFor tellSc (lawEnv fa cd L) = pure [(Str.ofString "names", L + 2)] := by rfl
  have G' : Bas w K s.heap := G.up (frOn F)
  obtain ⟨oL, hL⟩ := Fr_live F
  refine comp_head (acc := listO #[] 0) (cl := [(Str.ofString "names", L + 2)]) rfl rfl h1 rfl (by decide) hfold (fun {A E Q s} q => newList0 q) ?_
  refine hask fun s₁ gb gn => ?_
  obtain ⟨CL, R, gs, hf, hgen, hgens, hos, keep, hgb0, hsz, hR0, hRal, nRg, hok⟩ := gn
  refine wpAny_pyIter_gen hgen ?_
  rintro b C s₃ hbe hCe hb hC e₃ hb3 hC3 hp3
  have hC1n : s₁.heap.get? (C + 1) = none := by
    rw [hCe]
    cases q : s₁.heap.get? (s₁.heap.objs.size + 1 + 1) with
    | none => rfl
    | some ob => exact absurd (Heap.lt_size q) (Nat.not_lt.mpr (Nat.le_trans (Nat.le_succ _) (Nat.le_succ _)))
  have hcell3 : s₃.heap.IsCell (C + 1) none := by
    rw [hp3]
    show (((s₁.heap.push (listO #[] 0)).push dict0).push cell0).IsCell (C + 1) none
    refine ⟨cell0, ?_, rfl⟩
    have hs : ((s₁.heap.push (listO #[] 0)).push dict0).objs.size = C + 1 := by rw [Heap.size_push, Heap.size_push, hCe]
    rw [← hs]; exact Heap.get?_push_size _ rfl
  have none0 : ∀ {c}, s₁.heap.get? c = none → s.heap.get? c = none := fun {c} q => by
    cases z : s.heap.get? c with
    | none => rfl
    | some o => rw [keep c o z] at q; cases q
  have ne : ∀ {c d}, s₁.heap.get? c = none → (∃ o, s₁.heap.get? d = some o) → d ≠ c := fun {c d} q ⟨o, y⟩ z => by rw [z, q] at y; cases y
  have hgl : ∃ o, s₁.heap.get? gb = some o := let ⟨og, _, _, q, _⟩ := hgen; ⟨og, q⟩
  have hgen3 : s₃.heap.IsGen gb s.gens.size := let ⟨og, x1, x2, q, r⟩ := hgen; ⟨og, x1, x2, e₃.all q, r⟩
  have hbC : b ≠ C := by rw [hbe, hCe]; exact Nat.ne_of_lt (Nat.lt_succ_self _)
  have hbc : b ≠ C + 1 := by rw [hbe, hCe]; exact Nat.ne_of_lt (Nat.lt_succ_of_lt (Nat.lt_succ_self _))
  have hbig : s.heap.objs.size ≤ b := by rw [hbe]; exact hsz
  have o₃ : On s.heap s₃.heap := ⟨fun c ob q => e₃.all (keep c ob q), Nat.le_of_lt (Nat.lt_of_le_of_lt hbig (Heap.lt_size hb3))⟩
  have nR : ∀ {c}, s₁.heap.get? c = none → ¬ R c := fun q z => ne q (hRal _ z) rfl
  have hI : LI prog w A s.heap s.gens s CL sz gb b C 200 s₃ := ⟨[], R, gs, [], 0, _, none, by simp, fun s₂ o₂ k₂ => hok s₂ o₂ fun x ob z q => k₂ x ob z (e₃.all q), e₃.gens.trans hgens, e₃.os.trans hos, o₃, hgen3, hR0, ⟨nRg, nR hb, nR hC, nR hC1n⟩, hb3, hC3, hcell3, .nil⟩
  have loop : codeAny (model prog w) A (.compLoop (.ListComp (.ListComp (.Subscript (.Name "model" a1) (.Name "name" a2) a3) [⟨.Name "name" b1, .Name "names" b2, [], 0⟩] rowSc c1) [⟨.Name "model" d1, IT, [], 0⟩] tellSc d2) 0 (.ref gb) (.ref b) (tEnv fa cd L C)) (compPost (model prog w) A E (some (assign (.Name x px) (lawEnv fa cd L))) Q (.ref b) C) s₃ := by
    refine gen_loop G' rm.hh rm.room D.h4 ⟨ne hb hgl, ne hC hgl, ne hC1n hgl⟩ ⟨hbC, hbc⟩ ⟨none0 hb, none0 hC, none0 hC1n⟩ hbig D.nm D.nl D.vl D.vn hI fun s₄ hist as k mC ov g4 os4 o₄ hb4 hC4 hrows => ?_
    have F₄ := Fr_on F o₄
    have hCL : C ≠ L := fun z => by have := none0 hC; rw [z, hL] at this; cases this
    refine post_use (B := B) (env := lawEnv fa cd L) hC4 F₄ hCL ((frOn F).none (none0 hC)) (fun s₅ F₅ e₅ => ?_) rfl hx
    have hbL : b ≠ L := fun z => by have := none0 hb; rw [z, hL] at this; cases this
    have k45 : ∀ {c ob}, c ≠ L → c ≠ C → s₄.heap.get? c = some ob → s₅.heap.get? c = some ob := fun n1 n2 q => e₅.keep _ _ (fun z => z.elim n1 n2) q
    refine hq s₅ b k as hist CL hf ov F₅ (e₅.gens.trans g4) (e₅.os.trans os4) (fun c ob n q => k45 n (fun z => by have := none0 hC; rw [← z, q] at this; cases this) (o₄.keep c ob q)) (none0 hb) (k45 hbL hbC hb4) (hrows.imp fun a ρ ⟨⟨k, x1⟩, x2, x3, x4, x5⟩ => ⟨⟨k, k45 (fun z => by rw [z, hL] at x3; cases x3) x5 x1⟩, x2, x3⟩)
  exact codeAny_compStart_list loop (wpAny_pyIter_gen hgen3 loop)
end
end Dp
end
section
open PySem PySem.W PySem.Calls PyProof.Rows
namespace Dp
structure ToldP (B : Heap) (L : Addr) (m : Str → Option Value) (x : Str) (sz : Nat) (cs : List (List Int)) (s s' : Shared) (tb : Addr) (as : List Addr) (hist : List (List Bool)) : Prop where
  ov : ∃ CL, F2 (fun (q : List Int) c => c.Perm q) cs CL ∧ Over CL sz hist
  fr : Fr B L s'.heap (updS m x (.ref tb))
  gens : s'.gens = s.gens.push .finished
  os : s'.os = s.os
  keep : ∀ b o, b ≠ L → s.heap.get? b = some o → s'.heap.get? b = some o
  new : s.heap.get? tb = none
  at_ : ∃ k, s'.heap.get? tb = some (listO (as.map Value.ref).toArray k)
  rows : F2 (fun a ρ => (∃ k, s'.heap.get? a = some (listO (ρ.map Value.bool).toArray k)) ∧ ρ.length = sz ∧ s.heap.get? a = none) as hist
section
variable {prog : Program} {w : World} {K : Frag} {B : Heap} {A : Around} {E : Value → Shared → Prop} {s s0 s' s₁ s₂ : Shared} {L fa a l C : Addr} {cd : Value} {m m' mF : Str → Option Value} {h h' : Heap} {env : Env} {α : Type} {V : α → Value → Prop}
theorem law_told {sz nb kn : Nat} {outs : List (Addr × List Int)} {vals : List Value} {Q : Flow → Shared → Prop} (G : Bas w K B) (kf : KF K) (F : Fr B L s.heap m) (rm : Rm A 10) (D : Laid5 s L m sz outs nb kn vals)
    (hq : ∀ s' tb as hist, ToldP B L m "told" sz (outs.map (·.2)) s s' tb as hist → Q .next s') : wpAny (model prog w) A (exec (stAt lawBody 4) (lawEnv fa cd L)) Q E s := by
  refine asnU (by rfl) (wpAny_bind (law_tell (x := "told") G kf F rm D (fun {Q} hq => eval_ask G kf F rm D (.inl ⟨rfl, rfl⟩) (by rfl) hq) (by intro _; rfl) rfl fun s' tb k as hist CL h1 h2 h3 h4 h5 h6 h7 h8 h9 => wpAny_pure (hq s' tb as hist ⟨⟨CL, h1, h2⟩, h3, h4, h5, h6, h7, ⟨k, h8⟩, h9⟩)))
theorem law_learned {sz nb kn : Nat} {outs : List (Addr × List Int)} {vals : List Value} {Q : Flow → Shared → Prop} (G : Bas w K B) (kf : KF K) (F : Fr B L s.heap m) (rm : Rm A 10) (D : Laid5 s L m sz outs nb kn vals)
    (hq : ∀ s' tb as hist, ToldP B L m "learned" sz (outs.map (·.2)) s s' tb as hist → Q .next s') : wpAny (model prog w) A (exec (stAt lawBody 5) (lawEnv fa cd L)) Q E s := by
  refine asnU (by rfl) (wpAny_bind (law_tell (x := "learned") G kf F rm D (fun {Q} hq => eval_ask G kf F rm D (.inr ⟨_, _, _, rfl, rfl⟩) (by rfl) hq) (by intro _; rfl) rfl fun s' tb k as hist CL h1 h2 h3 h4 h5 h6 h7 h8 h9 => wpAny_pure (hq s' tb as hist ⟨⟨CL, h1, h2⟩, h3, h4, h5, h6, h7, ⟨k, h8⟩, h9⟩)))
end
theorem rowsAll_nodup {n : Nat} (h : n ≤ 4) : (rowsAll n).Nodup := by
  have : n = 0 ∨ n = 1 ∨ n = 2 ∨ n = 3 ∨ n = 4 := by omega
  rcases this with rfl | rfl | rfl | rfl | rfl <;> decide
theorem mem_rowsAll {n : Nat} (h : n ≤ 4) {ρ : List Bool} : ρ ∈ rowsAll n ↔ ρ.length = n := by
  constructor
  · intro hm
    obtain ⟨k, _, rfl⟩ := List.mem_map.mp hm
    exact rowN_len _ _
  · intro hl
    have h0 : [] ∈ rowsAll 0 := by decide
    have h1 : ∀ a, [a] ∈ rowsAll 1 := by decide
    have h2 : ∀ a b, [a, b] ∈ rowsAll 2 := by decide
    have h3 : ∀ a b c, [a, b, c] ∈ rowsAll 3 := by decide
    have h4 : ∀ a b c d, [a, b, c, d] ∈ rowsAll 4 := by decide
    match ρ, hl with
    | [], hl => subst hl; exact h0
    | [a], hl => subst hl; exact h1 a
    | [a, b], hl => subst hl; exact h2 a b
    | [a, b, c], hl => subst hl; exact h3 a b c
    | [a, b, c, d], hl => subst hl; exact h4 a b c d
    | a :: b :: c :: d :: e :: r, hl => simp at hl; omega
theorem f2_iff {R : List Int → List Int → Prop} {P : List Int → Prop} (k : ∀ a b, R a b → (P a ↔ P b)) {l m : List (List Int)} (x : F2 R l m) : (∀ a ∈ l, P a) ↔ ∀ b ∈ m, P b := by
  induction x with
  | nil => simp
  | cons r _ ih => simp only [List.forall_mem_cons, ih, k _ _ r]
theorem told_perm {n : Nat} {outs : List (Addr × List Int)} {CL : List (List Int)} {hist : List (List Bool)} (h4 : n ≤ 4) (hf : F2 (fun (q : List Int) c => c.Perm q) (outs.map (·.2)) CL) (ov : Over CL n hist) : hist.Perm ((rowsAll n).filter (holdsB outs)) := by
  refine (List.perm_ext_iff_of_nodup ov.1 ((rowsAll_nodup h4).filter _)).mpr fun ρ => ?_
  rw [← ov.2 ρ, List.mem_filter, mem_rowsAll h4]
  unfold Mdl holdsB
  rw [lawB_iff]
  refine and_congr Iff.rfl ?_
  have := f2_iff (P := fun c => ∃ x ∈ c, tr ρ x) (fun a b hp => ⟨fun ⟨x, h1, h2⟩ => ⟨x, hp.mem_iff.mpr h1, h2⟩, fun ⟨x, h1, h2⟩ => ⟨x, hp.mem_iff.mp h1, h2⟩⟩) hf
  rw [← this]
  exact ⟨fun h p hp => h _ (List.mem_map_of_mem hp), fun h c hc => by obtain ⟨p, hp, rfl⟩ := List.mem_map.mp hc; exact h p hp⟩
end Dp
end
section
open PySem PySem.W PySem.Calls PyProof.Rows
namespace Dp
def RowsAt (h : Heap) (n : Nat) (as : List Addr) (hist : List (List Bool)) : Prop := F2 (fun a ρ => (∃ k, h.get? a = some (listO (ρ.map Value.bool).toArray k)) ∧ ρ.length = n) as hist
theorem RowsAt.keep {h h' : Heap} {n : Nat} {as : List Addr} {hist : List (List Bool)} (x : RowsAt h n as hist) (k : ∀ a ∈ as, ∀ o, h.get? a = some o → h'.get? a = some o) : RowsAt h' n as hist := by
  unfold RowsAt at x ⊢
  induction x with
  | nil => exact .nil
  | cons r _ ih => exact .cons ⟨let ⟨j, e⟩ := r.1; ⟨j, k _ (List.mem_cons_self ..) _ e⟩, r.2⟩ (ih fun a ha => k a (List.mem_cons_of_mem _ ha))
theorem RowsAt.rowV {h : Heap} {n : Nat} {as : List Addr} {hist : List (List Bool)} (x : RowsAt h n as hist) : ∀ v ∈ as.map Value.ref, RowV h n v := by
  unfold RowsAt at x
  induction x with
  | nil => intro v hv; cases hv
  | cons r _ ih =>
    intro v hv
    rw [List.map_cons] at hv
    rcases List.mem_cons.mp hv with rfl | hv
    · obtain ⟨⟨k, e⟩, hl⟩ := r; exact ⟨_, _, k, rfl, e, hl⟩
    · exact ih v hv
theorem RowsAt.rows {h : Heap} {n : Nat} {as : List Addr} {hist : List (List Bool)} (x : RowsAt h n as hist) : (as.map Value.ref).map (rowAt h) = hist := by
  unfold RowsAt at x
  induction x with
  | nil => rfl
  | cons r _ ih => obtain ⟨⟨k, e⟩, hl⟩ := r; rw [List.map_cons, List.map_cons, rowAt_row e, ih]
theorem rowV_keep {h h' : Heap} {n : Nat} {v : Value} (k : ∀ a o, h.get? a = some o → h'.get? a = some o) (x : RowV h n v) : RowV h' n v ∧ rowAt h' v = rowAt h v := by
  obtain ⟨a, ρ, j, rfl, q1, q2⟩ := x
  exact ⟨⟨a, ρ, j, rfl, k _ _ q1, q2⟩, by rw [rowAt_row q1, rowAt_row (k _ _ q1)]⟩
theorem rowV_len {h : Heap} {n : Nat} {v : Value} (x : RowV h n v) : (rowAt h v).length = n := by
  obtain ⟨a, ρ, j, rfl, q1, q2⟩ := x
  rw [rowAt_row q1]; exact q2
section
variable {prog : Program} {w : World} {K : Frag} {B : Heap} {A : Around} {E : Value → Shared → Prop} {s s0 s' s₁ s₂ : Shared} {L fa a l C : Addr} {cd : Value} {m m' mF : Str → Option Value} {h h' : Heap} {env : Env} {α : Type} {V : α → Value → Prop}
theorem cmp_sorted {x : Str} {tb db : Addr} {as : List Addr} {hist RR : List (List Bool)} {ys : List Value} {k de sz : Nat} {p1 p2 p3 p4 p5 : Pos} {Q : Value → Shared → Prop} (G : Bas w K B) (kf : KF K) (F : Fr B L s.heap m) (hu : A.units + 10 < cLine) (hx : m x = some (.ref tb)) (hdue : m "due" = some (.ref db))
    (htb : s.heap.get? tb = some (listO (as.map Value.ref).toArray k)) (hrows : RowsAt s.heap sz as hist) (hp : hist.Perm RR) (hlen : as.length < 64)
    (hdb : s.heap.get? db = some (listO ys.toArray de)) (hys : ∀ v ∈ ys, RowV s.heap sz v) (hyp : (ys.map (rowAt s.heap)).Perm RR) (hyo : (ys.map (rowAt s.heap)).Pairwise (fun x y => bval x ≤ bval y))
    (hloc : (lawEnv fa cd L).kindOf x = some .local) (hnd : (x == ("__debug__" : Str)) = false) (hq : ∀ s', Eff No s s' → Q (.bool true) s') :
    wpAny (model prog w) A (eval (.Compare (.Call (.Name "sorted" p1) [.Name x p2] [] p3) [.Eq] [.Name "due" p4] p5) (lawEnv fa cd L)) Q E s := by
  refine wpAny_Compare1 (Call_ (Nm.name (Nm.bui G kf (frOn F)) (PyProof.Rows.callWith_builtin1 (args_cons (ldN (env := lawEnv fa cd L) F hx (args_nil ?_) rfl hloc hnd) se_name) se_name (by rfl))))
  refine call_sorted_rows (nn := sz) (listO_is htb) hrows.rowV (by rw [List.length_map]; exact hlen) hu fun s₁ b out e e₁ hb0 hb1 hperm hsort => ?_
  have F₁ := Fr_no F e₁
  refine ldN (env := lawEnv fa cd L) F₁ hdue ?_
  have hk : ∀ a o, s.heap.get? a = some o → s₁.heap.get? a = some o := fun a o q => e₁.all q
  have hov : ∀ v ∈ out, RowV s.heap sz v := fun v hv => hrows.rowV v (hperm.mem_iff.mp hv)
  have h1 : out.map (rowAt s₁.heap) = out.map (rowAt s.heap) := List.map_congr_left fun v hv => (rowV_keep hk (hov v hv)).2
  have h2 : ys.map (rowAt s₁.heap) = ys.map (rowAt s.heap) := List.map_congr_left fun v hv => (rowV_keep hk (hys v hv)).2
  have h3 : (out.map (rowAt s.heap)).Perm hist := hrows.rows ▸ hperm.map _
  have h4 : (out.map (rowAt s.heap)).Pairwise (fun x y => bval x ≤ bval y) := by
    rw [List.pairwise_map]
    exact hsort.imp_of_mem fun {a b} ha hb hab => by rw [← rkOf_rowAt (hov a ha), ← rkOf_rowAt (hov b hb)]; exact hab
  have h5 : out.map (rowAt s.heap) = ys.map (rowAt s.heap) := rows_unique (n := sz) (fun ρ hρ => by obtain ⟨v, hv, rfl⟩ := List.mem_map.mp hρ; exact rowV_len (hov v hv)) ((h3.trans hp).trans hyp.symm) h4 hyo
  refine eq_rows (nn := sz) (listO_is hb1) (listO_is (e₁.all hdb)) (fun v hv => (rowV_keep hk (hov v hv)).1) (fun v hv => (rowV_keep hk (hys v hv)).1) (by rw [h1, h2, h5]) hu (hq s₁ e₁)
theorem law_return {tb lb db : Addr} {as bs : List Addr} {hist hist2 RR : List (List Bool)} {ys : List Value} {k k2 de sz : Nat} {Q : Flow → Shared → Prop} (G : Bas w K B) (kf : KF K) (F : Fr B L s.heap m) (hu : A.units + 10 < cLine) (ht : m "told" = some (.ref tb)) (hl : m "learned" = some (.ref lb)) (hdue : m "due" = some (.ref db))
    (htb : s.heap.get? tb = some (listO (as.map Value.ref).toArray k)) (hrows : RowsAt s.heap sz as hist) (hp : hist.Perm RR) (hlen : as.length < 64)
    (hlb : s.heap.get? lb = some (listO (bs.map Value.ref).toArray k2)) (hrows2 : RowsAt s.heap sz bs hist2) (hp2 : hist2.Perm RR) (hlen2 : bs.length < 64)
    (hdb : s.heap.get? db = some (listO ys.toArray de)) (hys : ∀ v ∈ ys, RowV s.heap sz v) (hyp : (ys.map (rowAt s.heap)).Perm RR) (hyo : (ys.map (rowAt s.heap)).Pairwise (fun x y => bval x ≤ bval y))
    (hq : ∀ s', Eff No s s' → Q (.ret (.bool true)) s') :
    wpAny (model prog w) A (exec (stAt lawBody 6) (lawEnv fa cd L)) Q E s := by
  refine wpAny_Return_some (BoolOp_and (cmp_sorted G kf F hu ht hdue htb hrows hp hlen hdb hys hyp hyo rfl (by decide) fun s₁ e₁ => wpAny_truthy_bool ?_))
  rw [if_pos rfl]
  have hk : ∀ a o, s.heap.get? a = some o → s₁.heap.get? a = some o := fun a o q => e₁.all q
  have h2 : ys.map (rowAt s₁.heap) = ys.map (rowAt s.heap) := List.map_congr_left fun v hv => (rowV_keep hk (hys v hv)).2
  refine BoolOp_one (cmp_sorted G kf (Fr_no F e₁) hu hl hdue (e₁.all hlb) (hrows2.keep fun a _ o q => hk a o q) hp2 hlen2 (e₁.all hdb) (fun v hv => (rowV_keep hk (hys v hv)).1) (h2 ▸ hyp) (h2 ▸ hyo) rfl (by decide) fun s₂ e₂ => hq s₂ (e₁.same e₂))
end
end Dp
end
section
open PySem PySem.W PySem.Calls PyProof.Rows
namespace Dp
def LK (h h' : Heap) : Prop := ∀ a xs k, h.get? a = some (listO xs k) → h'.get? a = some (listO xs k)
theorem LK.trans {h h' h'' : Heap} (x : LK h h') (y : LK h' h'') : LK h h'' := fun a xs k q => y a xs k (x a xs k q)
section
variable {prog : Program} {w : World} {K : Frag} {B : Heap} {A : Around} {E : Value → Shared → Prop} {s s0 s' s₁ s₂ : Shared} {L fa a l C : Addr} {cd : Value} {m m' mF : Str → Option Value} {h h' : Heap} {env : Env} {α : Type} {V : α → Value → Prop}
theorem lk_ns (F : Fr B L h m) (k : ∀ b o, b ≠ L → h.get? b = some o → h'.get? b = some o) : LK h h' := fun a xs j q => k a _ (fun z => by
  subst z
  obtain ⟨oo, es, ep, q', r⟩ := F.ns
  rw [q] at q'
  have := Option.some.inj q'
  subst this
  exact absurd r.1 (by intro z; cases z)) q
theorem lk_cell {c : Addr} {v : Option Value} (x : h.IsCell c v) (k : ∀ b o, b ≠ c → h.get? b = some o → h'.get? b = some o) : LK h h' := fun a xs j q => k a _ (fun z => by
  subst z
  obtain ⟨oo, q', r⟩ := x
  rw [q] at q'
  have := Option.some.inj q'
  subst this
  exact absurd r (by intro z; cases z)) q
theorem LK.rowV {n : Nat} {v : Value} (k : LK h h') (x : RowV h n v) : RowV h' n v ∧ rowAt h' v = rowAt h v := by
  obtain ⟨a, ρ, j, rfl, q1, q2⟩ := x
  exact ⟨⟨a, ρ, j, rfl, k _ _ _ q1, q2⟩, by rw [rowAt_row q1, rowAt_row (k _ _ _ q1)]⟩
theorem LK.rowsAt {n : Nat} {as : List Addr} {hist : List (List Bool)} (k : LK h h') (x : RowsAt h n as hist) : RowsAt h' n as hist :=
  F2.imp (fun a ρ ⟨⟨j, e⟩, hl⟩ => ⟨⟨j, k _ _ _ e⟩, hl⟩) x
theorem Laid5.up {sz nb kn : Nat} {outs : List (Addr × List Int)} {vals : List Value} {x : Str} {v : Value} (D : Laid5 s L m sz outs nb kn vals) (k : LK s.heap s'.heap) (c1 : ∀ v, s.heap.IsCell (L + 1) v → s'.heap.IsCell (L + 1) v) (c2 : ∀ v, s.heap.IsCell (L + 2) v → s'.heap.IsCell (L + 2) v) (hx : Str.ofString "size" ≠ x) : Laid5 s' L (updS m x v) sz outs nb kn vals where
  size := let ⟨tz, e⟩ := D.size; ⟨tz, (updS_ne hx).trans e⟩
  h1 := D.h1
  h4 := D.h4
  cl := let ⟨cl0, k0, e1, e2⟩ := D.cl; ⟨cl0, k0, c1 _ e1, k _ _ _ e2⟩
  z := D.z
  out := fun q hq => let ⟨f, oc, e1, vs, j, e2, e3⟩ := D.out q hq; ⟨f, oc, by rw [e2] at e1 ⊢; exact k _ _ _ e1, vs, j, e2, e3⟩
  nm := c2 _ D.nm
  nl := k _ _ _ D.nl
  vl := D.vl
  vn := D.vn
theorem law_body {lst : Addr} {vs : List Value} {ns : List Int} {Q : Flow → Shared → Prop} (G : Bas w K B) (kf : KF K) (F : Fr B L s.heap m) (rm : Rm A 10) (hm : m "script" = some (.ref lst)) (hl : s.heap.IsList lst vs.toArray) (hi : IntsAre vs ns) (hz : vs.length ≤ 1000) (hlB : ∃ o, B.get? lst = some o)
    (hc1 : ∃ v, s.heap.IsCell (L + 1) v) (hc2 : ∃ v, s.heap.IsCell (L + 2) v) (hB1 : B.get? (L + 1) = none) (hB2 : B.get? (L + 2) = none)
    (hq : ∀ s', (∀ b o, B.get? b = some o → s'.heap.get? b = some o) → s'.gens = (s.gens.push .finished).push .finished → s'.os = s.os → Q (.ret (.bool true)) s') :
    wpAny (model prog w) A (execs lawBody (lawEnv fa cd L)) Q E s := by
  have n1L : L + 1 ≠ L := Nat.succ_ne_self L
  have n2L : L + 2 ≠ L := add2_ne L
  have n12 : L + 1 ≠ L + 2 := Nat.ne_of_lt (Nat.lt_succ_self _)
  have lstL : lst ≠ L := fun z => by
    obtain ⟨o, y⟩ := hlB
    have := Heap.lt_size y; rw [z] at this; exact absurd this (Nat.not_lt.mpr F.above)
  obtain ⟨v1, hc1⟩ := hc1
  obtain ⟨v2, hc2⟩ := hc2
  show wpAny _ _ (execs [stAt lawBody 0, stAt lawBody 1, stAt lawBody 2, stAt lawBody 3, stAt lawBody 4, stAt lawBody 5, stAt lawBody 6] _) _ _ _
  refine wpAny_execs_cons (law_size G kf F (rm.less (by omega)) hm hl hi hz fun s₁ sz tz h1 h4 F₁ e₁ => ?_)
  have hm1 : updS m "size" (.int (sz : Nat) tz) "script" = some (.ref lst) := (updS_ne (by decide)).trans hm
  have hs1 : updS m "size" (.int (sz : Nat) tz) "size" = some (.int (sz : Nat) tz) := updS_self
  generalize updS m "size" (.int (sz : Nat) tz) = m₁ at F₁ hm1 hs1
  have c11 := IsCell.eff hc1 e₁ n1L
  have c21 := IsCell.eff hc2 e₁ n2L
  refine wpAny_execs_cons (law_clauses G kf F₁ (rm.less (by omega)) hm1 hs1 (hl.at fun o q => e₁.keep _ o lstL q) hi hz h1 hlB ⟨_, c11⟩ hB1 fun s₂ cl0 k0 outs F₂ c12 hcl0 hcl hol hout e₂ => ?_)
  have c22 := IsCell.eff c21 e₂ (Ne.symm n12)
  have hout2 : ∀ q ∈ outs, FinC sz q.2 ∧ ∃ oc, s₂.heap.get? q.1 = some oc ∧ IntList oc q.2 := fun q hq => (hout q hq).2
  refine wpAny_execs_cons (law_due G kf F₂ (rm.less (by omega)) hs1 h4 c12 hcl hol hout2 fun s₃ db de ys F₃ hdb0 hdb hys hyp hyo e₃ => ?_)
  have lk23 : LK s₂.heap s₃.heap := lk_ns F₂ fun b o n q => e₃.keep b o n q
  have c13 := IsCell.eff c12 e₃ n1L
  have c23 := IsCell.eff c22 e₃ n2L
  have hs3 : updS m₁ "due" (.ref db) "size" = some (.int (sz : Nat) tz) := (updS_ne (by decide)).trans hs1
  have hd3 : updS m₁ "due" (.ref db) "due" = some (.ref db) := updS_self
  generalize updS m₁ "due" (.ref db) = m₃ at F₃ hs3 hd3
  refine wpAny_execs_cons (law_names G kf F₃ rm.hh hs3 h4 ⟨_, c23⟩ hB2 fun s₄ nb kn vals F₄ c24 hnb0 hnb hvl hvn e₄ => ?_)
  have lk34 : LK s₃.heap s₄.heap := lk_cell c23 fun b o n q => e₄.keep b o n q
  have c14 := IsCell.eff c13 e₄ n12
  have D : Laid5 s₄ L m₃ sz outs nb kn vals := ⟨⟨tz, hs3⟩, h1, h4, ⟨cl0, k0, c14, lk34 _ _ _ (lk23 _ _ _ hcl)⟩, hol, fun q hq => let ⟨f, oc, e1, vs, j, e2, e3⟩ := hout2 q hq; ⟨f, oc, by rw [e2] at e1 ⊢; exact lk34 _ _ _ (lk23 _ _ _ e1), vs, j, e2, e3⟩, c24, hnb, hvl, hvn⟩
  refine wpAny_execs_cons (law_told G kf F₄ rm D fun s₅ tb as hist P => ?_)
  have lk45 : LK s₄.heap s₅.heap := lk_ns F₄ P.keep
  have F₅ := P.fr
  have D₅ : Laid5 s₅ L (updS m₃ "told" (.ref tb)) sz outs nb kn vals := D.up lk45 (fun v ⟨o, q, r⟩ => ⟨o, P.keep _ _ n1L q, r⟩) (fun v ⟨o, q, r⟩ => ⟨o, P.keep _ _ n2L q, r⟩) (by decide)
  have hd5 : updS m₃ "told" (.ref tb) "due" = some (.ref db) := (updS_ne (by decide)).trans hd3
  have ht5 : updS m₃ "told" (.ref tb) "told" = some (.ref tb) := updS_self
  generalize updS m₃ "told" (.ref tb) = m₅ at F₅ D₅ hd5 ht5
  refine wpAny_execs_cons (law_learned G kf F₅ rm D₅ fun s₆ lb bs hist2 P2 => ?_)
  have lk56 : LK s₅.heap s₆.heap := lk_ns F₅ P2.keep
  have F₆ := P2.fr
  have hd6 : updS m₅ "learned" (.ref lb) "due" = some (.ref db) := (updS_ne (by decide)).trans hd5
  have ht6 : updS m₅ "learned" (.ref lb) "told" = some (.ref tb) := (updS_ne (by decide)).trans ht5
  have hl6 : updS m₅ "learned" (.ref lb) "learned" = some (.ref lb) := updS_self
  generalize updS m₅ "learned" (.ref lb) = m₆ at F₆ hd6 ht6 hl6
  have lk36 : LK s₃.heap s₆.heap := (lk34.trans lk45).trans lk56
  obtain ⟨CL1, f1, ov1⟩ := P.ov
  obtain ⟨CL2, f2, ov2⟩ := P2.ov
  have p1 := told_perm h4 f1 ov1
  have p2 := told_perm h4 f2 ov2
  have r1 : RowsAt s₅.heap sz as hist := P.rows.imp fun a ρ ⟨x, y, _⟩ => ⟨x, y⟩
  have r2 : RowsAt s₆.heap sz bs hist2 := P2.rows.imp fun a ρ ⟨x, y, _⟩ => ⟨x, y⟩
  have hln : ∀ {hh : List (List Bool)}, hh.Perm ((rowsAll sz).filter (holdsB outs)) → hh.length < 64 := fun {hh} p => by
    have a1 := p.length_eq
    have a2 := List.length_filter_le (holdsB outs) (rowsAll sz)
    have a3 : (rowsAll sz).length = 2 ^ sz := by simp [rowsAll]
    have a4 : 2 ^ sz ≤ 16 := Nat.le_trans (Nat.pow_le_pow_right (by decide) h4) (by decide)
    omega
  obtain ⟨k1, q1⟩ := P.at_
  obtain ⟨k2, q2⟩ := P2.at_
  have hrw : ys.map (rowAt s₆.heap) = ys.map (rowAt s₃.heap) := List.map_congr_left fun v hv => (lk36.rowV (hys v hv)).2
  have hu : A.units + 10 < cLine := by have := rm.un; omega
  refine wpAny_execs_cons (law_return G kf F₆ hu ht6 hl6 hd6 (lk56 _ _ _ q1) (lk56.rowsAt r1) p1 (by rw [r1.length]; exact hln p1) q2 r2 p2 (by rw [r2.length]; exact hln p2) (lk36 _ _ _ hdb) (fun v hv => (lk36.rowV (hys v hv)).1) (hrw ▸ hyp) (hrw ▸ hyo) fun s₇ e₇ => ?_)
  refine hq s₇ (fun b o q => e₇.all (F₆.keep b o q)) ?_ ?_
  · rw [e₇.gens, P2.gens, P.gens, e₄.gens, e₃.gens, e₂.gens, e₁.gens]
  · rw [e₇.os, P2.os, P.os, e₄.os, e₃.os, e₂.os, e₁.os]
end
end Dp
end
section
open PySem PySem.W PySem.Calls PyProof.Rows
namespace Dp
section
variable {prog : Program} {w : World} {K : Frag} {A : Around} {E : Value → Shared → Prop} {s s₀ s' s₁ s₂ : Shared} {L fa a l C : Addr} {cd : Value} {m m' mg mb : Str → Option Value} {h h' h₁ : Heap}
theorem rm_caller {env : Env} : Rm (callerA.deeper env) 10 := ⟨rfl, by show 1 + 300 + 1 + 10 < 1000; decide, by show 4 + 3 + 100 * 10 < 9900; decide⟩
theorem law_end {p : Program} {loose : List Str} {mean : ExcName → Option Value} {lst : Addr} {vs : List Value} {ns : List Int} {tk₁ : Nat} {o1 o2 : Obj} {x1 x2 : Option Value} {Q : Flow → Shared → Prop} {env : Env} {body : List Stmt} (T : Top p loose mean mg mb s₁.heap) (KX : K.In s₁.heap) (kf : KF K) (hL : s₁.heap.IsList lst vs.toArray) (hI : IntsAre vs ns) (hlen : ¬ (((63 : Nat) : Int) < (ns.length : Int)))
    (F : Fr s₁.heap s₁.heap.objs.size h₁ m) (N0 : News s₁.heap s₁.heap.objs.size h₁ [(s₁.heap.objs.size + 1 + 1, o2), (s₁.heap.objs.size + 1, o1)]) (d2 : o2.data = .cell x2) (d1 : o1.data = .cell x1) (hm : m "script" = some (.ref lst)) (henv : env = lawEnv fa cd s₁.heap.objs.size) (hbody : body = lawBody)
    (hq : ∀ s', (∀ b o, s₁.heap.get? b = some o → s'.heap.get? b = some o) → s'.gens = (s₁.gens.push .finished).push .finished → s'.os = s₁.os → Q (.ret (.bool true)) s') :
    wpAny (model prog w) (callerA.deeper env) (execs body env) Q E ⟨h₁, s₁.gens, s₁.drawn, tk₁, s₁.os⟩ := by
  subst henv hbody
  obtain ⟨q2, _, b2⟩ := N0 (s₁.heap.objs.size + 1 + 1, o2) (by simp)
  obtain ⟨q1, _, b1⟩ := N0 (s₁.heap.objs.size + 1, o1) (by simp)
  have G : Bas w K s₁.heap := ⟨KX, _, _, _, _, topRead_of T⟩
  have hvl : vs.length ≤ 1000 := by rw [hI.length]; omega
  exact law_body (s := ⟨h₁, s₁.gens, s₁.drawn, tk₁, s₁.os⟩) (B := s₁.heap) G kf F rm_caller hm (hL.at fun o q => F.keep _ o q) hI hvl (let ⟨o, q, _⟩ := hL; ⟨o, q⟩) ⟨x1, o1, q1, d1⟩ ⟨x2, o2, q2, d2⟩ b1 b2 hq
theorem two_bare (g : Array GenState) (h : g = #[]) : AllBare ((g.push .finished).push .finished) := by
  subst h
  exact (AllBare.empty.push rfl).push rfl
end
end Dp
end
open PySem PySem.W PySem.Calls PyProof.Rows
set_option maxRecDepth 100000 in
set_option maxHeartbeats 0 in
theorem PySem.Challenge.cw_bj0066_01_holds : PySem.Challenge.rw_bj0066_01.Holds := by
  w_on
  o_law
  k_head
  case hw => w_witness2
  w_strict (
    k_fill
    intro w s₀ s₁ mg mb G Y fa o pm cd doc dV kV ho hd hcd hD hmg hg args vals as hpre hlay hrd hwl hlo
    have KX := kIn_of Y
    have X := (Ground.X G).1
    have V := (Ground.X G).2
    refine Ground.open G ?_
    intro T B D TE TW
    try (refine guard_noD D (by decide +kernel) ?_; clear D)
    obtain ⟨_, _, M⟩ := bmod_of_top T
    have TA := at_of_top T
    try (obtain ⟨_, _, he, B0⟩ := based_of_top T rfl hmg ho hd; have he' : cd = _ := he; subst he'; clear he)
    clear hmg
    wrow_args hpre hlay hrd hwl hlo
    first | refine callC_kw (enter_call ?_) | refine enter_call ?_ | refine callC_kw (enter_callW ?_) | refine enter_callW ?_ | w_how
    w_top on
    have K0 := below_caller (Top.heap T)
    w_call any ho hd hcd hD T F
    clear hd TA
    k_drop
    rename_i vs _ hL _ _ _ hI _ hlen _ h₁ tk₁ o2 o1 d2 d1 N0 X0
    refine Dp.law_end T KX ?kf hL hI hlen F N0 d2 d1 rfl rfl rfl fun s' k g os => ?fin
    case fin =>
      refine ⟨.inl ⟨_, _, [], rfl, fun _ => rfl, ReadsW.bool true, ?_, fun _ => ⟨List.nodup_nil, fun _ hm => (nomatch hm)⟩⟩, .of_keep k, os, g ▸ Dp.two_bare _ hg⟩
      first | rfl | wrow_post
    case kf =>
      clear KX
      generalize World.params w = P
      constructor
      case S | Lv => (refine ⟨?_, ?_, ?_, ?_, ?_, ?_, ?_⟩ <;> (try unfold Dp.sAttrs) <;> (try unfold Dp.lAttrs) <;> (repeat' (first | exact List.forall_mem_nil _ | refine List.forall_mem_cons.mpr ⟨?_, ?_⟩)) <;> rfl)
      case curR => exact ⟨_, rfl⟩
      case dSI => exact ⟨_, _, _, rfl⟩
      case gNone => ((repeat' (first | exact List.forall_mem_nil _ | refine List.forall_mem_cons.mpr ⟨?_, ?_⟩)) <;> rfl)
      case cur | fSI | fLI | fLA | fLC | fLR | fLH => exact ⟨⟨_, rfl⟩, rfl, rfl, rfl⟩
      all_goals first
        | rfl
        | exact ⟨⟨⟨_, rfl⟩, rfl, rfl, rfl⟩, rfl⟩)
