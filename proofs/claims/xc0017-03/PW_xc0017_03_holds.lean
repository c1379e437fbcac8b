import PyProof.Rows.All
import Wide.All
import OpenK.AllK
import Wide.FinOn
import KE.KEqDat
import PyProof.P3In
import KE.KLam
import KE.KItemsList
import PyProof.DictDisplay
import KE.KBoundM
import KE.BitLaws
import PyProof.StrLawsIn
import PyProof.ZipIter
import KE.KMinKey
import PyProof.Rows.CallKwBuiltin
import PySem.Challenge.RW_xc0017_03
set_option Elab.async false
set_option linter.all false
set_option genSizeOf false
set_option genInjectivity false
set_option maxRecDepth 100000
set_option bootstrap.genMatcherCode false
section
open PySem PySem.W PyProof.Rows
namespace Mine
inductive D where
  | none | bool (b : Bool) | int (i : Int) | str (s : Str)
  | tup (l : List D) | lst (l : List D)
  | ds (l : List (Str × D)) | di (l : List (Int × D))
  | loc (n : Nat)
  | lam (k : Nat) (caps : List (Str × D))
structure LamInfo where
  params : Arguments
  body : Expr
  scope : Scope
structure Cx where
  prog : Program
  w : World
  h0 : Heap
  LT : Nat → LamInfo → Prop
  rc : Addr
  mg : Str → Option Value
  mb : Str → Option Value
  glob : h0.Ns mainGlobals mg
  bltn : h0.Ns builtinsNs mb
  K : Frag
  inK : K.In h0
inductive Tag where
  | fz | ob (n : Nat) | mu (k : Addr)
structure W where
  s : Shared
  tag : Addr → Tag
  mn : List Addr
noncomputable abbrev seqObj (T : String) (vs : List Value) (n : Nat) : Obj := { cls := .type T, data := .seq vs.toArray n }
structure At (w : W) (t : Tag) (a : Addr) (o : Obj) : Prop where
  tag : w.tag a = t
  is : w.s.heap.get? a = some o
inductive HCons {α : Type} (P : α → Prop) (Q : List α → Prop) : List α → Prop
  | mk (v : α) (r : List α) (p : P v) (q : Q r) : HCons P Q (v :: r)
inductive HKV {κ : Type} (k : κ) (P : Value → Prop) (Q : List (κ × Value) → Prop) : List (κ × Value) → Prop
  | mk (v : Value) (r : List (κ × Value)) (p : P v) (q : Q r) : HKV k P Q ((k, v) :: r)
inductive HRef (P : Addr → Prop) : Value → Prop
  | mk (a : Addr) (p : P a) : HRef P (.ref a)
inductive HSeq (w : W) (t : Tag) (T : String) (Q : List Value → Prop) (a : Addr) : Prop
  | mk (vs : List Value) (n : Nat) (z : At w t a (seqObj T vs n)) (q : Q vs)
inductive HDict {κ : Type} (w : W) (t : Tag) (K : Obj → List (κ × Value) → Prop) (Q : List (κ × Value) → Prop) (a : Addr) : Prop
  | mk (o : Obj) (kvs : List (κ × Value)) (ne : a ≠ sysModules) (z : At w t a o) (d : K o kvs) (q : Q kvs)
noncomputable def IsDs (C : Cx) (o : Obj) (kvs : List (Str × Value)) : Prop := o.IsDictOf (strKind C.prog C.w) kvs
noncomputable def IsDi (C : Cx) (o : Obj) (kvs : List (Int × Value)) : Prop := o.IsDictOf (intKind C.prog C.w) kvs
structure LamIs (C : Cx) (k : Nat) (caps : List (Str × D)) (fd : FuncData) (c : Addr) (oc : Obj) (i : LamInfo) : Prop where
  lt : C.LT k i
  body : fd.body = .expr i.body
  params : fd.params = i.params
  scope : fd.scope = i.scope
  globals : fd.globals = mainGlobals
  builtins : fd.builtins = builtinsNs
  defaults : fd.defaults = .none
  kwdefaults : fd.kwdefaults = .none
  code : fd.code = .ref c
  rec' : ∃ vs t, oc.data = .fields vs ∧ vs[1]? = some (.str fd.qualname t)
  caps : ∀ x c, fd.closure.lookup x = some c → ∃ d, (x, d) ∈ caps
inductive HLam (C : Cx) (w : W) (k : Nat) (caps : List (Str × D)) (Q : List (Str × Addr) → Prop) (a : Addr) : Prop
  | mk (o : Obj) (fd : FuncData) (c : Addr) (oc : Obj) (i : LamInfo) (z : At w .fz a o) (f : o.data = .func fd) (zc : At w .fz c oc) (l : LamIs C k caps fd c oc i) (q : Q fd.closure)
inductive HCell (w : W) (x : Str) (cl : List (Str × Addr)) (P : Value → Prop) : Prop
  | mk (c : Addr) (o : Obj) (v : Value) (l : cl.lookup x = some c) (z : At w .fz c o) (d : o.data = .cell (some v)) (p : P v)
section
variable (C : Cx) (w : W)
mutual
noncomputable def Rep : D → Value → Prop
  | .none => fun v => v = .none
  | .bool b => fun v => v = .bool b
  | .int i => fun v => ∃ t, v = .int i t
  | .str s => fun v => ∃ t, v = .str s t
  | .tup l => HRef (HSeq w .fz "tuple" (RepL l))
  | .lst l => HRef (HSeq w .fz "list" (RepL l))
  | .ds l => HRef (HDict w .fz (IsDs C) (RepS l))
  | .di l => HRef (HDict w .fz (IsDi C) (RepI l))
  | .loc n => fun v => ∃ a, w.mn[n]? = some a ∧ v = .ref a
  | .lam k caps => HRef (HLam C w k caps (RepC caps))
noncomputable def RepL : List D → List Value → Prop
  | [] => fun vs => vs = []
  | d :: l => HCons (Rep d) (RepL l)
noncomputable def RepS : List (Str × D) → List (Str × Value) → Prop
  | [] => fun vs => vs = []
  | (k, d) :: l => HKV k (Rep d) (RepS l)
noncomputable def RepI : List (Int × D) → List (Int × Value) → Prop
  | [] => fun vs => vs = []
  | (k, d) :: l => HKV k (Rep d) (RepI l)
noncomputable def RepC : List (Str × D) → List (Str × Addr) → Prop
  | [] => fun u0 => True
  | (x, d) :: l => fun cl => HCell w x cl (Rep d) ∧ RepC l cl
end
end
section
variable {C : Cx}
noncomputable def Keeps (w w' : W) (t : Tag) : Prop := ∀ b o, At w t b o → At w' t b o
structure Mono (w w' : W) : Prop where
  keep : Keeps w w' .fz
  main : ∀ (n : Nat) a, w.mn[n]? = some a → w'.mn[n]? = some a
theorem HCons.imp {α : Type} {P P' : α → Prop} {Q Q' : List α → Prop} (p : ∀ v, P v → P' v) (q : ∀ r, Q r → Q' r) {l : List α} : HCons P Q l → HCons P' Q' l
  | ⟨v, r, a, b⟩ => ⟨v, r, p v a, q r b⟩
theorem HKV.imp {κ : Type} {k : κ} {P P' : Value → Prop} {Q Q' : List (κ × Value) → Prop} (p : ∀ v, P v → P' v) (q : ∀ r, Q r → Q' r) {l : List (κ × Value)} : HKV k P Q l → HKV k P' Q' l
  | ⟨v, r, a, b⟩ => ⟨v, r, p v a, q r b⟩
variable {w w' : W}
theorem HRef.imp {P P' : Addr → Prop} (p : ∀ a, P a → P' a) {v : Value} : HRef P v → HRef P' v
  | ⟨a, z⟩ => ⟨a, p a z⟩
theorem HSeq.mono {t : Tag} (M : Keeps w w' t) {T : String} {Q Q' : List Value → Prop} (q : ∀ r, Q r → Q' r) (a : Addr) : HSeq w t T Q a → HSeq w' t T Q' a
  | ⟨vs, n, z, b⟩ => ⟨vs, n, M _ _ z, q _ b⟩
theorem HDict.mono {t : Tag} (M : Keeps w w' t) {κ : Type} {K : Obj → List (κ × Value) → Prop} {Q Q' : List (κ × Value) → Prop} (q : ∀ r, Q r → Q' r) (a : Addr) : HDict w t K Q a → HDict w' t K Q' a
  | ⟨o, kvs, ne, z, d, b⟩ => ⟨o, kvs, ne, M _ _ z, d, q _ b⟩
variable (M : Mono w w')
include M
theorem HLam.mono {k : Nat} {caps : List (Str × D)} {Q Q' : List (Str × Addr) → Prop} (q : ∀ r, Q r → Q' r) (a : Addr) : HLam C w k caps Q a → HLam C w' k caps Q' a
  | ⟨o, fd, c, oc, i, z, f, zc, l, b⟩ => ⟨o, fd, c, oc, i, M.keep _ _ z, f, M.keep _ _ zc, l, q _ b⟩
mutual
theorem Rep.mono : ∀ (d : D) (v : Value), Rep C w d v → Rep C w' d v
  | .none, _ => id
  | .bool _, _ => id
  | .int _, _ => id
  | .str _, _ => id
  | .tup l, _ => HRef.imp (HSeq.mono M.keep (RepL.mono l))
  | .lst l, _ => HRef.imp (HSeq.mono M.keep (RepL.mono l))
  | .ds l, _ => HRef.imp (HDict.mono M.keep (RepS.mono l))
  | .di l, _ => HRef.imp (HDict.mono M.keep (RepI.mono l))
  | .loc n, _ => fun ⟨a, e, q⟩ => ⟨a, M.main n a e, q⟩
  | .lam _ caps, _ => HRef.imp (HLam.mono M (RepC.mono caps))
theorem RepL.mono : ∀ (l : List D) (vs : List Value), RepL C w l vs → RepL C w' l vs
  | [], _ => id
  | d :: l, _ => HCons.imp (Rep.mono d) (RepL.mono l)
theorem RepS.mono : ∀ (l : List (Str × D)) (vs : List (Str × Value)), RepS C w l vs → RepS C w' l vs
  | [], _ => id
  | (_, d) :: l, _ => HKV.imp (Rep.mono d) (RepS.mono l)
theorem RepI.mono : ∀ (l : List (Int × D)) (vs : List (Int × Value)), RepI C w l vs → RepI C w' l vs
  | [], _ => id
  | (_, d) :: l, _ => HKV.imp (Rep.mono d) (RepI.mono l)
theorem RepC.mono : ∀ (l : List (Str × D)) (cl : List (Str × Addr)), RepC C w l cl → RepC C w' l cl
  | [], _ => id
  | (_, d) :: l, cl => fun ⟨⟨c, o, v, e, z, q, a⟩, b⟩ => ⟨⟨c, o, v, e, M.keep _ _ z, q, Rep.mono d v a⟩, RepC.mono l cl b⟩
end
end
end Mine
end
section
open PySem PySem.W PyProof.Rows
namespace Mine
noncomputable def kget {K : Type} [DecidableEq K] : List (K × D) → K → Option D
  | [], _ => none
  | (j, d) :: r, k => if j = k then some d else kget r k
noncomputable def kset {K : Type} [DecidableEq K] : List (K × D) → K → D → List (K × D)
  | [], k, d => [(k, d)]
  | (j, e) :: r, k, d => if j = k then (j, d) :: r else (j, e) :: kset r k d
inductive AO where
  | dead
  | lst (l : List D) | ds (l : List (Str × D)) | di (l : List (Int × D))
  | it (l : List D)
  | ins (c : Addr) (fs : List (Str × D))
  | cit (n : Nat) (live : Bool)
  | tab (P : Addr) (l : List (Nat × Nat))
  | fo (l : List (Str × D))
noncomputable abbrev St := List AO
noncomputable abbrev iterObj (li : Addr) (i : Nat) : Obj := { cls := .type "list_iterator", data := .fields #[.ref li, .int i 0] }
noncomputable abbrev iterEnd (i : Nat) : Obj := { cls := .type "list_iterator", data := .fields #[.none, .int i 0] }
noncomputable abbrev citObj (bm : Addr) (t : Tok) : Obj := { cls := .type "callable_iterator", data := .fields #[.ref bm, .str Str.empty t, .bool false] }
noncomputable abbrev citEnd : Obj := { cls := .type "callable_iterator", data := .fields #[.none, .none, .bool true] }
noncomputable abbrev bmObj (f x : Addr) : Obj := { cls := .type "method", data := .fields #[.ref f, .ref x] }
noncomputable def RepE (C : Cx) (w : W) : List (Str × D) → List DictEntry → Prop
  | [] => fun es => es = []
  | (k, d) :: l => HCons (fun e => ∃ hash t v, e = ⟨hash, .str k t, v⟩ ∧ Rep C w d v) (RepE C w l)
theorem RepE.mono {C : Cx} {w w' : W} (M : Mono w w') : ∀ (l : List (Str × D)) (es : List DictEntry), RepE C w l es → RepE C w' l es
  | [], _ => id
  | (_, d) :: l, _ => HCons.imp (fun u0 ⟨a, b, v, e, r⟩ => ⟨a, b, v, e, Rep.mono M d v r⟩) (RepE.mono M l)
inductive HIt (w : W) (t : Tag) (Q : List Value → Prop) (a : Addr) : Prop
  | on (li : Addr) (vs : List Value) (k i : Nat) (z : At w t a (iterObj li i)) (zl : At w .fz li (seqObj "list" vs k)) (q : Q (vs.drop i))
  | off (i : Nat) (z : At w t a (iterEnd i)) (q : Q [])
inductive HIns (w : W) (t : Tag) (c : Addr) (Q : List DictEntry → Prop) (a : Addr) : Prop
  | mk (dx : Addr) (es : List DictEntry) (k : Nat) (z : At w t a (instObj c dx)) (zd : At w t dx (dictOf es k)) (q : Q es)
inductive HCit (C : Cx) (w : W) (t : Tag) (m : Nat) (a : Addr) : Prop
  | mk (bm : Addr) (k : Tok) (x : Addr) (z : At w t a (citObj bm k)) (zb : At w .fz bm (bmObj C.rc x)) (e : w.mn[m]? = some x)
inductive HTab (w : W) (t : Tag) (l : List (Nat × Nat)) (a : Addr) : Prop
  | mk (ps : Array Value) (z : At w t a (tabObj ps)) (ok : TriplesOk ps.toList) (q : ∀ pos : Pos, (pos.line, pos.col) ∉ l → codeAmong pos ps.toList = none)
noncomputable def RepN (C : Cx) (w : W) : List (Str × D) → (Str → Option Value) → Prop
  | [] => fun u0 => True
  | (x, d) :: l => fun m => (∃ v, m x = some v ∧ Rep C w d v) ∧ RepN C w l m
theorem RepN.mono {C : Cx} {w w' : W} (M : Mono w w') : ∀ (l : List (Str × D)) (m : Str → Option Value), RepN C w l m → RepN C w' l m
  | [], _ => id
  | (_, d) :: l, m => fun ⟨⟨v, e, a⟩, b⟩ => ⟨⟨v, e, Rep.mono M d v a⟩, RepN.mono M l m b⟩
inductive HFo (w : W) (t : Tag) (l : List (Str × D)) (Q : (Str → Option Value) → Prop) (a : Addr) : Prop
  | no (o : Obj) (fd : FuncData) (z : At w t a o) (c : o.cls = .type "function") (f : o.data = .func fd) (dd : o.dict = none) (e : l = [])
  | di (ne : l ≠ []) (d : Addr) (o od : Obj) (fd : FuncData) (es : Array DictEntry) (ep : Nat) (z : At w t a o) (c : o.cls = .type "function") (f : o.data = .func fd) (dd : o.dict = some d) (zd : At w t d od) (od' : od.data = .dict es ep) (sk : StrKeys es) (q : Q (nsFind es))
noncomputable def AOk (C : Cx) (w : W) (n : Nat) : AO → Addr → Prop
  | .dead => fun u0 => True
  | .lst l => HSeq w (.ob n) "list" (RepL C w l)
  | .ds l => HDict w (.ob n) (IsDs C) (RepS C w l)
  | .di l => HDict w (.ob n) (IsDi C) (RepI C w l)
  | .it l => HIt w (.ob n) (RepL C w l)
  | .ins c fs => HIns w (.ob n) c (RepE C w fs)
  | .cit m true => HCit C w (.ob n) m
  | .cit _ false => fun a => At w (.ob n) a citEnd
  | .tab P l => fun a => a = P ∧ HTab w (.ob n) l a
  | .fo l => HFo w (.ob n) l (RepN C w l)
theorem AOk.mono {C : Cx} {w w' : W} {n : Nat} (M : Mono w w') (k : Keeps w w' (.ob n)) : ∀ {c : AO} {a : Addr}, AOk C w n c a → AOk C w' n c a
  | .dead, _ => id
  | .lst l, a => HSeq.mono k (RepL.mono M l) a
  | .ds l, a => HDict.mono k (RepS.mono M l) a
  | .di l, a => HDict.mono k (RepI.mono M l) a
  | .it l, _ => fun
    | .on li vs j i z zl q => .on li vs j i (k _ _ z) (M.keep _ _ zl) (RepL.mono M l _ q)
    | .off i z q => .off i (k _ _ z) (RepL.mono M l _ q)
  | .ins c fs, _ => fun ⟨dx, es, j, z, zd, q⟩ => ⟨dx, es, j, k _ _ z, k _ _ zd, RepE.mono M fs _ q⟩
  | .cit m true, _ => fun ⟨bm, t, x, z, zb, e⟩ => ⟨bm, t, x, k _ _ z, M.keep _ _ zb, M.main _ _ e⟩
  | .cit _ false, _ => k _ _
  | .tab P l, _ => fun ⟨e, ps, z, ok, q⟩ => ⟨e, ps, k _ _ z, ok, q⟩
  | .fo l, _ => fun
    | .no o fd z c f dd e => .no o fd (k _ _ z) c f dd e
    | .di ne d o od fd es ep z c f dd zd e sk q => .di ne d o od fd es ep (k _ _ z) c f dd (k _ _ zd) e sk (RepN.mono M _ _ q)
noncomputable def Alive (w : W) (b : Addr) : Prop := ∃ o, w.s.heap.get? b = some o
theorem At.alive {w : W} {t : Tag} {a : Addr} {o : Obj} (z : At w t a o) : Alive w a := ⟨o, z.is⟩
theorem Alive.no {w : W} {b : Addr} (a : Alive w b) (e : w.s.heap.get? b = none) : False := let ⟨_, q⟩ := a; nomatch q.symm.trans e
theorem dead_of {w : W} {b : Addr} (a : ¬ Alive w b) : w.s.heap.get? b = none := Option.eq_none_iff_forall_ne_some.mpr fun o e => a ⟨o, e⟩
structure Inv (C : Cx) (σ : St) (w : W) : Prop where
  base : ∀ b o, C.h0.get? b = some o → At w .fz b o
  dead : ∀ b, w.s.heap.get? b = none → w.tag b = .fz
  own : ∀ b k, w.tag b = .mu k → ∃ o, At w (.mu k) k o
  obj : ∀ b n, w.tag b = .ob n → n < σ.length
  len : w.mn.length = σ.length
  ok : ∀ (n : Nat) c a, σ[n]? = some c → w.mn[n]? = some a → AOk C w n c a
structure Step (F : Addr → Prop) (w w' : W) : Prop extends Mono w w' where
  mu : ∀ k, ¬ F k → Keeps w w' (.mu k)
  rest : ∃ h t, w'.s = { w.s with heap := h, toks := t }
noncomputable abbrev NoX : Tag → Prop := fun u0 => False
noncomputable abbrev NoF : Addr → Prop := fun u0 => False
section
variable {C : Cx} {F F' : Addr → Prop} {w w' w₁ w₂ w₃ : W} {σ σ' : St} {a : Addr}
theorem Step.refl (F w) : Step F w w := ⟨⟨fun u0 u0 z => z, fun u0 u0 e => e⟩, fun u0 u0 u0 u0 z => z, w.s.heap, w.s.toks, rfl⟩
theorem Step.trans (x : Step F w₁ w₂) (y : Step F w₂ w₃) : Step F w₁ w₃ where
  keep b o z := y.keep b o (x.keep b o z)
  main n a e := y.main n a (x.main n a e)
  mu k f b o z := y.mu k f b o (x.mu k f b o z)
  rest := let ⟨_, _, e⟩ := x.rest; let ⟨h, t, e'⟩ := y.rest; ⟨h, t, by rw [e', e]⟩
theorem Step.weaken (x : Step F w w') (h : ∀ b, F b → F' b) : Step F' w w' := { x with mu := fun k f => x.mu k fun q => f (h k q) }
theorem Step.ofN (x : Step NoF w w') : Step F w w' := x.weaken fun u0 q => q.elim
noncomputable def NoT (w : W) (a : Addr) : Prop := ∀ b, w.tag b ≠ .mu a
theorem NoT.of (I : Inv C σ w) {a : Addr} (e : w.s.heap.get? a = none) : NoT w a := fun b q => let ⟨_, y⟩ := I.own b a q; y.alive.no e
theorem NoT.back (n : NoT w' a) (I : Inv C σ w) (x : Step NoF w w') : NoT w a := fun b q => let ⟨o, y⟩ := I.own b a q; n a (x.mu a id a o y).tag
theorem Step.tight (x : Step F w w') (h : ∀ b, F b → F' b ∨ NoT w b) : Step F' w w' := { x with mu := fun k f b o z => x.mu k (fun q => (h k q).elim f fun e => e b z.tag) b o z }
theorem Step.rep (x : Step F w w') {d : D} {v : Value} (r : Rep C w d v) : Rep C w' d v := Rep.mono x.toMono d v r
theorem Step.repL (x : Step F w w') {d : List D} {v : List Value} (r : RepL C w d v) : RepL C w' d v := RepL.mono x.toMono d v r
structure Chg (X : Tag → Prop) (w w' : W) : Prop where
  keep : ∀ t, ¬ X t → Keeps w w' t
  rest : ∃ h t, w'.s = { w.s with heap := h, toks := t }
  main : ∀ (n : Nat) a, w.mn[n]? = some a → w'.mn[n]? = some a
theorem Chg.step {X : Tag → Prop} (c : Chg X w w') (h0 : ¬ X .fz) (hF : ∀ k, X (.mu k) → F k) : Step F w w' :=
  ⟨⟨c.keep _ h0, c.main⟩, fun k f => c.keep _ fun q => f (hF k q), c.rest⟩
theorem Chg.inv {X : Tag → Prop} (c : Chg X w w') (I : Inv C σ w) (h0 : ¬ X .fz) (dead : ∀ b, w'.s.heap.get? b = none → w'.tag b = .fz) (own : ∀ b k, w'.tag b = .mu k → ∃ o, At w' (.mu k) k o)
    (obj : ∀ b n, w'.tag b = .ob n → n < σ'.length) (len : w'.mn.length = σ'.length)
    (ok : ∀ (n : Nat) c a, σ'[n]? = some c → w'.mn[n]? = some a → AOk C w' n c a ∨ (¬ X (.ob n) ∧ σ[n]? = some c ∧ w.mn[n]? = some a)) : Inv C σ' w' :=
  ⟨fun b o e => c.keep _ h0 _ _ (I.base b o e), dead, own, obj, len, fun n co a e1 e2 => (ok n co a e1 e2).elim id fun ⟨q, e3, e4⟩ => (I.ok n co a e3 e4).mono ⟨c.keep _ h0, c.main⟩ (c.keep _ q)⟩
end
end Mine
end
section
open PySem PySem.W PyProof.Rows
namespace Mine
noncomputable def W.put (w : W) (as : List Addr) (t : Tag) (h : Heap) (k : Tok) (m : List Addr) : W := ⟨{ w.s with heap := h, toks := k }, fun b => if b ∈ as then t else w.tag b, w.mn ++ m⟩
section
variable {C : Cx} {F : Addr → Prop} {w w' : W} {σ σ' : St} {X : Tag → Prop} {as m : List Addr} {t : Tag} {h : Heap} {k : Tok}
theorem Chg.put (hX : ∀ t', ¬ X t' → ∀ b o, At w t' b o → b ∉ as ∧ h.get? b = some o) : Chg X w (w.put as t h k m) :=
  ⟨fun t' n b o z => ⟨(if_neg (hX t' n b o z).1).trans z.tag, (hX t' n b o z).2⟩, ⟨h, k, rfl⟩, fun n a e => (List.getElem?_append_left (List.getElem?_eq_some_iff.mp e).1).trans e⟩
theorem put_dead (I : Inv C σ w) (hA : ∀ b ∈ as, ∃ o, h.get? b = some o) (ha : ∀ b, Alive w b → ∃ o, h.get? b = some o) (b : Addr) (e : h.get? b = none) : (w.put as t h k m).tag b = .fz :=
  (if_neg fun q => let ⟨_, e'⟩ := hA b q; nomatch e'.symm.trans e).trans (I.dead b (dead_of fun q => let ⟨_, e'⟩ := ha b q; nomatch e'.symm.trans e))
theorem put_tag {b : Addr} (t' : Tag) (e : (w.put as t h k m).tag b = t') : w.tag b = t' ∨ (b ∈ as ∧ t = t') := by
  have e : (if b ∈ as then t else w.tag b) = t' := e
  by_cases q : b ∈ as
  · rw [if_pos q] at e; exact .inr ⟨q, e⟩
  · rw [if_neg q] at e; exact .inl e
theorem put_own (I : Inv C σ w) (ha : ∀ b, Alive w b → ∃ o, h.get? b = some o) (hs : ∀ b ∈ as, w.tag b ≠ .mu b) {b j : Addr} (e : w.tag b = .mu j) : ∃ o, At (w.put as t h k m) (.mu j) j o :=
  let ⟨_, z⟩ := I.own b j e; let ⟨o, q⟩ := ha j z.alive; ⟨o, (if_neg fun m => hs j m z.tag).trans z.tag, q⟩
theorem Inv.put (I : Inv C σ w) (c : Chg X w (w.put as t h k [])) (h0 : ¬ X .fz) (hob : ∀ n, ¬ X (.ob n)) (hA : ∀ b ∈ as, ∃ o, h.get? b = some o) (ha : ∀ b, Alive w b → ∃ o, h.get? b = some o) (hs : ∀ b ∈ as, w.tag b ≠ .mu b) (ht : ∀ j, t = .mu j → ∃ o, At (w.put as t h k []) (.mu j) j o) (hn : ∀ n, t ≠ .ob n) : Inv C σ (w.put as t h k []) :=
  c.inv I h0 (put_dead I hA ha) (fun b j e => (put_tag _ e).elim (put_own I ha hs) fun e => ht j e.2) (fun b j e => (put_tag _ e).elim (I.obj b j) fun e => absurd e.2 (hn j))
    ((congrArg _ (List.append_nil _)).trans I.len) fun n co a e1 e2 => .inr ⟨hob n, e1, (congrArg (·[n]?) (List.append_nil w.mn)).symm.trans e2⟩
theorem Inv.set' {n : Nat} {co : AO} (ht : t = .fz ∨ t = .ob n ∧ n < σ.length) (I : Inv C σ w) (c : Chg (· = .ob n) w (w.put as t h k [])) (hA : ∀ b ∈ as, ∃ o, h.get? b = some o) (ha : ∀ b, Alive w b → ∃ o, h.get? b = some o) (hs : ∀ b ∈ as, w.tag b ≠ .mu b) (ok : ∀ a, w.mn[n]? = some a → AOk C (w.put as t h k []) n co a) : Inv C (σ.set n co) (w.put as t h k []) :=
  c.inv I (fun q => nomatch q) (put_dead I hA ha) (fun b j e => (put_tag _ e).elim (put_own I ha hs) fun e => ht.elim (fun q => nomatch q.symm.trans e.2) fun q => nomatch q.1.symm.trans e.2) (fun b j e => (put_tag _ e).elim (fun e => by rw [List.length_set]; exact I.obj b j e) fun e => ht.elim (fun q => nomatch q.symm.trans e.2) fun q => by cases q.1.symm.trans e.2; rw [List.length_set]; exact q.2)
    ((congrArg _ (List.append_nil _)).trans (I.len.trans List.length_set.symm)) fun j co' a e1 e2 => by
      have e3 : w.mn[j]? = some a := (congrArg (·[j]?) (List.append_nil w.mn)).symm.trans e2
      by_cases q : n = j
      · subst q
        rw [List.getElem?_set_self (by have := (List.getElem?_eq_some_iff.mp e1).1; rwa [List.length_set] at this)] at e1
        cases e1; exact .inl (ok a e3)
      · rw [List.getElem?_set_ne q] at e1
        exact .inr ⟨fun z => by cases z; exact q rfl, e1, e3⟩
theorem Inv.set {n : Nat} {co : AO} (I : Inv C σ w) (c : Chg (· = .ob n) w (w.put as .fz h k [])) (hA : ∀ b ∈ as, ∃ o, h.get? b = some o) (ha : ∀ b, Alive w b → ∃ o, h.get? b = some o) (hs : ∀ b ∈ as, w.tag b ≠ .mu b) (ok : ∀ a, w.mn[n]? = some a → AOk C (w.put as .fz h k []) n co a) : Inv C (σ.set n co) (w.put as .fz h k []) := I.set' (.inl rfl) c hA ha hs ok
theorem Inv.new {a : Addr} {co : AO} (I : Inv C σ w) (c : Chg NoX w (w.put as (.ob σ.length) h k [a])) (hA : ∀ b ∈ as, ∃ o, h.get? b = some o) (ha : ∀ b, Alive w b → ∃ o, h.get? b = some o) (hs : ∀ b ∈ as, w.tag b ≠ .mu b) (ok : AOk C (w.put as (.ob σ.length) h k [a]) σ.length co a) : Inv C (σ ++ [co]) (w.put as (.ob σ.length) h k [a]) :=
  c.inv I id (put_dead I hA ha) (fun b j e => (put_tag _ e).elim (put_own I ha hs) fun e => nomatch e.2)
    (fun b j e => by rw [List.length_append]; exact (put_tag _ e).elim (fun e => Nat.lt_succ_of_lt (I.obj b j e)) fun e => by cases e.2; exact Nat.lt_succ_self _)
    (by show (w.mn ++ [a]).length = _; rw [List.length_append, List.length_append, I.len]; rfl) fun j co' a' e1 e2 => by
      have e2 : (w.mn ++ [a])[j]? = some a' := e2
      rcases Nat.lt_or_ge j σ.length with q | q
      · rw [List.getElem?_append_left q] at e1
        rw [List.getElem?_append_left (by rw [I.len]; exact q)] at e2
        exact .inr ⟨id, e1, e2⟩
      · have q' := (List.getElem?_eq_some_iff.mp e1).1
        rw [List.length_append] at q'
        have : j = σ.length := Nat.le_antisymm (Nat.le_of_lt_succ q') q
        subst this
        rw [List.getElem?_append_right (Nat.le_refl _), Nat.sub_self] at e1
        rw [← I.len, List.getElem?_append_right (Nat.le_refl _), Nat.sub_self] at e2
        cases e1; cases e2; exact .inl ok
noncomputable def W.fin (w : W) (ks : List Addr) (h : Heap) (k : Tok) : W := ⟨{ w.s with heap := h, toks := k }, fun b => match w.tag b with | .mu j => if j ∈ ks then .fz else .mu j | t => t, w.mn⟩
variable {ks : List Addr}
theorem fin_keep (hk : ∀ b o, (∀ j ∈ ks, w.tag b ≠ .mu j) → w.s.heap.get? b = some o → h.get? b = some o) {t : Tag} (ht : ∀ j ∈ ks, t ≠ .mu j) : Keeps w (w.fin ks h k) t := fun b o z =>
  ⟨by
    show (match w.tag b with | .mu j => if j ∈ ks then Tag.fz else .mu j | t => t) = t
    rw [z.tag]
    cases t with
    | mu j => exact if_neg fun m => ht j m rfl
    | _ => rfl, hk b o (fun j m e => ht j m (z.tag.symm.trans e)) z.is⟩
theorem fin_tag {b : Addr} {t : Tag} (e : (w.fin ks h k).tag b = t) : (∃ j ∈ ks, w.tag b = .mu j ∧ t = .fz) ∨ w.tag b = t := by
  have e : (match w.tag b with | .mu j => if j ∈ ks then Tag.fz else .mu j | t => t) = t := e
  cases q : w.tag b with
  | mu j =>
    rw [q] at e
    by_cases m : j ∈ ks
    · exact .inl ⟨j, m, rfl, ((if_pos m).symm.trans e).symm⟩
    · exact .inr ((if_neg m).symm.trans e)
  | _ => rw [q] at e; exact .inr e
theorem Inv.fin (I : Inv C σ w) (hk : ∀ b o, (∀ j ∈ ks, w.tag b ≠ .mu j) → w.s.heap.get? b = some o → h.get? b = some o) : Inv C σ (w.fin ks h k) where
  base b o e := fin_keep (t := .fz) hk (fun u0 u0 e => nomatch e) _ _ (I.base b o e)
  dead b e := by
    show (match w.tag b with | .mu j => if j ∈ ks then Tag.fz else .mu j | t => t) = .fz
    by_cases q : ∃ j ∈ ks, w.tag b = .mu j
    · obtain ⟨j, m, q⟩ := q; rw [q]; exact if_pos m
    · rw [I.dead b (dead_of fun ⟨o, z⟩ => nomatch (hk b o (fun j m e => q ⟨j, m, e⟩) z).symm.trans e)]
  own b j e := by
    rcases fin_tag e with ⟨_, _, _, q⟩ | q
    · exact nomatch q
    · obtain ⟨o, z⟩ := I.own b j q
      refine ⟨o, fin_keep hk (fun i m x => ?_) _ _ z⟩
      cases x
      have e : (match w.tag b with | .mu j => if j ∈ ks then Tag.fz else .mu j | t => t) = .mu j := e
      rw [q] at e
      exact nomatch (if_pos m).symm.trans e
  obj b n e := (fin_tag e).elim (fun ⟨_, _, _, q⟩ => nomatch q) (I.obj b n)
  len := I.len
  ok n c a e1 e2 := (I.ok n c a e1 e2).mono (Mono.mk (fin_keep (t := .fz) hk (fun u0 u0 e => nomatch e)) (fun u0 u0 e => e)) (fin_keep (t := .ob n) hk (fun u0 u0 e => nomatch e))
theorem Step.fin {w₀ : W} {F' : Addr → Prop} (x : Step F' w₀ w) (hk : ∀ b o, (∀ j ∈ ks, w.tag b ≠ .mu j) → w.s.heap.get? b = some o → h.get? b = some o) (hF : ∀ j, F' j → F j ∨ j ∈ ks) (hn : ∀ j ∈ ks, NoT w₀ j) : Step F w₀ (w.fin ks h k) where
  keep b o z := fin_keep (t := .fz) hk (fun u0 u0 e => nomatch e) _ _ (x.keep b o z)
  main := x.main
  mu j f b o z := have no : j ∉ ks := fun m => hn j m b z.tag
    fin_keep hk (fun i m e => by cases e; exact no m) _ _ (x.mu j (fun q => (hF j q).elim f no) b o z)
  rest := let ⟨_, _, e⟩ := x.rest; ⟨h, k, by show ({ w.s with heap := h, toks := k } : Shared) = _; rw [e]⟩
end
end Mine
end
section
open PySem PySem.W PyProof.Rows
namespace Mine
noncomputable abbrev Rho := List (Option D)
structure Rm (k : Nat) (A : Around) : Prop where
  handled : A.handled = none
  depth : A.depth + k < recursionLimit
  units : A.units + 10 * k + 100 < cLine
structure Fd where
  scope : Scope
  ns : List Str
  own : List Nat
  once : List Nat
structure Ctx where
  C : Cx
  A : Around
  k : Nat
  env : Env
  fd : Fd
  ids : List Addr
noncomputable abbrev Ctx.ns (K : Ctx) : List Str := K.fd.ns
noncomputable abbrev Ctx.own (K : Ctx) : List Nat := K.fd.own
noncomputable abbrev Ctx.once (K : Ctx) : List Nat := K.fd.once
section
variable (K : Ctx)
noncomputable abbrev Ctx.L : Addr := K.env.locals
noncomputable abbrev Ctx.Cl (x : Str) : Prop := K.env.kindOf x = some .cell ∨ K.env.kindOf x = some .free
structure KOk : Prop where
  room : Rm K.k K.A
  scope : K.env.scope = K.fd.scope
  kind : K.env.scope.kind = .function
  glob : K.env.globals = mainGlobals
  bi : K.env.builtins = builtinsNs
  nd : K.ns.Nodup
  id : K.L ∈ K.ids
  own : ∀ i ∈ K.own, ∀ x, K.ns[i]? = some x → K.env.kindOf x = some .local ∨ K.env.kindOf x = some .cell
  has : ∀ x, K.Cl x → ∃ c, K.env.cells.lookup x = some c
  inj : ∀ i ∈ K.own, ∀ x y c, K.ns[i]? = some x → K.env.kindOf x = some .cell → K.env.cells.lookup x = some c → K.env.cells.lookup y = some c → x = y
noncomputable def Ctx.tagOf (ρ : Rho) (i : Nat) : Tag := match ρ[i]? with
  | some none => .mu K.L
  | _ => if i ∈ K.once then .fz else .mu K.L
inductive LocOk (w : W) (ρ : Rho) : Prop
  | mk (o : Obj) (es : Array DictEntry) (ep : Nat) (z : At w (.mu K.L) K.L o) (e : o.data = .dict es ep) (sk : StrKeys es)
    (val : ∀ (i : Nat) x d, K.ns[i]? = some x → K.env.kindOf x = some .local → ρ[i]? = some (some d) → ∃ v, nsFind es x = some v ∧ Rep K.C w d v)
inductive CellOk (w : W) (ρ : Rho) (x : Str) (c : Addr) : Prop
  | mk (o : Obj) (ov : Option Value) (t : Tag) (z : At w t c o) (e : o.data = .cell ov) (ne : c ≠ K.L) (ht : t = .fz ∨ ∃ k ∈ K.ids, t = .mu k)
    (val : ∀ (i : Nat) d, K.ns[i]? = some x → K.Cl x → ρ[i]? = some (some d) → ∃ v, ov = some v ∧ Rep K.C w d v)
    (own : ∀ i ∈ K.own, K.ns[i]? = some x → K.env.kindOf x = some .cell → t = K.tagOf ρ i)
structure EnvOk (w : W) (ρ : Rho) : Prop where
  loc : LocOk K w ρ
  cel : ∀ x c, K.env.cells.lookup x = some c → CellOk K w ρ x c
  ids : ∀ j ∈ K.ids, ∃ o, At w (.mu j) j o
end
section
variable {K : Ctx} {F : Addr → Prop} {w w' : W} {ρ : Rho} {σ : St}
theorem EnvOk.step (V : EnvOk K w ρ) (o : KOk K) (x : Step F w w') (hF : ∀ k ∈ K.ids, ¬ F k) : EnvOk K w' ρ :=
  ⟨let ⟨o', es, ep, z, e, sk, val⟩ := V.loc; ⟨o', es, ep, x.mu _ (hF _ o.id) _ _ z, e, sk, fun i y d a b c => let ⟨v, p, q⟩ := val i y d a b c; ⟨v, p, x.rep q⟩⟩,
   fun y c a => let ⟨o', ov, t, z, e, ne, ht, val, own⟩ := V.cel y c a
    ⟨o', ov, t, ht.elim (fun q => by subst q; exact x.keep _ _ z) fun ⟨k, m, q⟩ => by subst q; exact x.mu k (hF k m) _ _ z, e, ne, ht, fun i d a b c => let ⟨v, p, q⟩ := val i d a b c; ⟨v, p, x.rep q⟩, own⟩, fun j m => let ⟨o', z⟩ := V.ids j m; ⟨o', x.mu j (hF j m) _ _ z⟩⟩
theorem EnvOk.stepN (V : EnvOk K w ρ) (o : KOk K) (x : Step NoF w w') : EnvOk K w' ρ := V.step o x fun u0 u0 q => q
theorem ns_inj (o : KOk K) {i j : Nat} {x : Str} (hi : K.ns[i]? = some x) (hj : K.ns[j]? = some x) : i = j := (List.getElem?_inj (List.getElem?_eq_some_iff.mp hi).1 o.nd).mp (hi.trans hj.symm)
noncomputable def Ctx.own1 (K : Ctx) : Addr → Prop := fun b => b = K.L
noncomputable def Fd.may (f : Fd) (ρ : Rho) (i : Nat) : Bool := f.own.contains i && Nat.blt i ρ.length && (!f.once.contains i || match ρ[i]? with
  | some none => true
  | _ => false)
noncomputable abbrev Ctx.may (K : Ctx) (ρ : Rho) (i : Nat) : Bool := K.fd.may ρ i
inductive OutN (K : Ctx) (F : Addr → Prop) (w : W) (σ : St) (ρ : Rho) : Shared → Prop
  | mk (w' : W) (x : Step F w w') (I : Inv K.C σ w') (V : EnvOk K w' ρ) : OutN K F w σ ρ w'.s
theorem set_same {i : Nat} {d : D} (h : ∃ a, ρ[i]? = some a) : (ρ.set i (some d))[i]? = some (some d) := let ⟨_, h⟩ := h; List.getElem?_set_self (List.getElem?_eq_some_iff.mp h).1
theorem may_of {i : Nat} (h : K.may ρ i = true) : i ∈ K.own ∧ K.tagOf ρ i = .mu K.L ∧ ∃ a, ρ[i]? = some a := by
  obtain ⟨h, h3⟩ := Bool.and_eq_true_iff.mp h
  obtain ⟨h1, h2⟩ := Bool.and_eq_true_iff.mp h
  have hl : i < ρ.length := Nat.le_of_ble_eq_true h2
  have e : ρ[i]? = some ρ[i] := List.getElem?_eq_getElem hl
  refine ⟨List.contains_iff_mem.mp h1, ?_, _, e⟩
  unfold Ctx.tagOf
  rw [e] at h3 ⊢
  cases q : ρ[i] with
  | none => rfl
  | some d => rw [q] at h3; exact if_neg fun m => (Bool.or_eq_true_iff.mp h3).elim (fun h => by rw [List.contains_iff_mem.mpr m] at h; cases h) fun h => nomatch h
theorem store_ok {M : Model} {A : Around} {E : Value → Shared → Prop} {i : Nat} {x : Str} {d : D} {v : Value} (o : KOk K) (I : Inv K.C σ w) (V : EnvOk K w ρ) (hi : K.ns[i]? = some x) (hmay : K.may ρ i = true) (R : Rep K.C w d v) :
    wpAny M A (storeName K.env x v) (fun u0 => OutN K K.own1 w σ (ρ.set i (some d))) E w.s := by
  obtain ⟨hown, htag, hs⟩ := may_of hmay
  obtain ⟨lo, es, ep, lz, le, sk, lval⟩ := V.loc
  have hf : ∀ t : Tag, ¬ t = .mu K.L → t ≠ .mu K.L := fun u0 q => q
  rcases o.own i hown x hi with hl | hc
  · refine wpAny_storeName_local hl ⟨lo, es, ep, lz.is, le, sk, fun u0 => rfl⟩ (fun h' hn' hsb => ?_) (by rw [o.kind]; rfl)
    obtain ⟨o', es', ep', e1, e2, e3, e4⟩ := hn'
    have c : Chg (· = .mu K.L) w (w.put [] .fz h' (w.s.toks + 1) []) := .put (fun t n b ob z => ⟨List.not_mem_nil, (hsb.2 b fun q => n (by rw [← z.tag, q, lz.tag])).trans z.is⟩)
    have ha : ∀ b, Alive w b → ∃ o, h'.get? b = some o := fun b ⟨ob, q⟩ => by
      by_cases z : b = K.L
      · exact ⟨o', by rw [z]; exact e1⟩
      · exact ⟨ob, (hsb.2 b z).trans q⟩
    have X : Step K.own1 w (w.put [] .fz h' (w.s.toks + 1) []) := c.step (fun q => nomatch q) fun k q => by cases q; rfl
    refine ⟨w.put [] .fz h' (w.s.toks + 1) [], X, I.put c (fun q => nomatch q) (fun u0 q => nomatch q) (fun u0 q => nomatch q) ha (fun u0 q => nomatch q) (fun u0 q => nomatch q) (fun u0 q => nomatch q), ⟨o', es', ep', ⟨lz.tag, e1⟩, e2, e3, fun j y e a b f => ?_⟩, fun y c q => ?_, fun j m => ?_⟩
    · rw [e4]
      by_cases q : i = j
      · subst q
        cases hi.symm.trans a
        cases (set_same hs).symm.trans f
        exact ⟨v, if_pos rfl, X.rep R⟩
      · rw [List.getElem?_set_ne q] at f
        obtain ⟨u, p, r⟩ := lval j y e a b f
        exact ⟨u, (if_neg fun (z : y = x) => q (ns_inj o hi (z ▸ a))).trans p, X.rep r⟩
    · obtain ⟨co, ov, t, z, e, ne, ht, val, own⟩ := V.cel y c q
      have nx : ∀ j, K.ns[j]? = some y → K.Cl y → i ≠ j := fun j a b k => by
        subst k; cases hi.symm.trans a
        exact b.elim (fun b => nomatch hl.symm.trans b) fun b => nomatch hl.symm.trans b
      refine ⟨co, ov, t, ⟨z.tag, (hsb.2 c ne).trans z.is⟩, e, ne, ht, fun j d' a b f => ?_, fun j m a b => ?_⟩
      · rw [List.getElem?_set_ne (nx j a b)] at f
        obtain ⟨u, p, r⟩ := val j d' a b f
        exact ⟨u, p, X.rep r⟩
      · rw [own j m a b]; unfold Ctx.tagOf; rw [List.getElem?_set_ne (nx j a (.inl b))]
    · by_cases q : j = K.L
      · subst q; exact ⟨o', lz.tag, e1⟩
      · obtain ⟨oj, z⟩ := V.ids j m
        exact ⟨oj, c.keep (.mu j) (fun e => q (by cases e; rfl)) _ _ z⟩
  · obtain ⟨c, hcl⟩ := o.has x (.inl hc)
    obtain ⟨co, ov, t, cz, ce, cne, u1, cval, cown⟩ := V.cel x c hcl
    have ct := cown i hown hi hc
    rw [htag] at ct
    subst ct
    refine wpAny_storeName_cell o.kind hc hcl ⟨co, cz.is, ce⟩ fun h' hc' hsb => ?_
    obtain ⟨o', e1, e2⟩ := hc'
    have c0 : Chg (· = .mu K.L) w (w.put (if i ∈ K.once then [c] else []) .fz h' w.s.toks []) := .put (fun t n b ob z => by
        have : b ≠ c := fun q => n (by rw [← z.tag, q, cz.tag])
        refine ⟨fun m => ?_, (hsb.2 b this).trans z.is⟩
        split at m
        · exact this (List.mem_singleton.mp m)
        · cases m)
    have ha : ∀ b, Alive w b → ∃ o, h'.get? b = some o := fun b ⟨ob, q⟩ => by
      by_cases z : b = c
      · exact ⟨o', by rw [z]; exact e1⟩
      · exact ⟨ob, (hsb.2 b z).trans q⟩
    have X : Step K.own1 w (w.put (if i ∈ K.once then [c] else []) .fz h' w.s.toks []) := c0.step (fun q => nomatch q) fun k q => by cases q; rfl
    have tg : ∀ b, b ≠ c → (w.put (if i ∈ K.once then [c] else []) .fz h' w.s.toks []).tag b = w.tag b := fun b q => if_neg fun m => by
      split at m
      · exact q (List.mem_singleton.mp m)
      · cases m
    have tc : (w.put (if i ∈ K.once then [c] else []) .fz h' w.s.toks []).tag c = K.tagOf (ρ.set i (some d)) i := by
      unfold Ctx.tagOf; rw [set_same hs]
      show (if c ∈ (if i ∈ K.once then [c] else []) then Tag.fz else w.tag c) = if i ∈ K.once then Tag.fz else _
      by_cases q : i ∈ K.once
      · rw [if_pos q, if_pos q, if_pos (.head _)]
      · rw [if_neg q, if_neg q, if_neg List.not_mem_nil, cz.tag]
    refine ⟨w.put (if i ∈ K.once then [c] else []) .fz h' w.s.toks [], X, I.put c0 (fun q => nomatch q) (fun u0 q => nomatch q) (fun b m => ⟨o', ?_⟩) ha (fun b m q => ?_) (fun u0 q => nomatch q) (fun u0 q => nomatch q), ⟨lo, es, ep, ⟨(tg _ (Ne.symm cne)).trans lz.tag, (hsb.2 _ (Ne.symm cne)).trans lz.is⟩, le, sk, fun j y e a b f => ?_⟩, fun y c' q => ?_, fun j m => ?_⟩
    · split at m
      · rw [List.mem_singleton.mp m]; exact e1
      · cases m
    · split at m
      · cases List.mem_singleton.mp m; exact cne (by rw [cz.tag] at q; cases q; rfl)
      · cases m
    · rw [List.getElem?_set_ne (fun k => by subst k; cases hi.symm.trans a; exact nomatch hc.symm.trans b)] at f
      obtain ⟨u, p, r⟩ := lval j y e a b f
      exact ⟨u, p, X.rep r⟩
    · by_cases k : c' = c
      · subst k
        cases o.inj i hown x y c' hi hc hcl q
        refine ⟨o', some v, _, ⟨tc, e1⟩, e2, cne, ?_, fun j d' a b f => ?_, fun j m a b => ?_⟩
        · unfold Ctx.tagOf; rw [set_same hs]
          show (if i ∈ K.once then Tag.fz else .mu K.L) = .fz ∨ _
          by_cases q : i ∈ K.once
          · exact .inl (if_pos q)
          · exact .inr ⟨_, o.id, if_neg q⟩
        · cases ns_inj o hi a
          cases (set_same hs).symm.trans f
          exact ⟨v, rfl, X.rep R⟩
        · cases ns_inj o hi a; rfl
      · obtain ⟨co', ov', t', z, e, ne, ht, val, own⟩ := V.cel y c' q
        have nx : ∀ j, K.ns[j]? = some y → i ≠ j := fun j a b => by
          subst b; cases hi.symm.trans a; exact k (Option.some.inj (q.symm.trans hcl))
        refine ⟨co', ov', t', ⟨(tg _ k).trans z.tag, (hsb.2 _ k).trans z.is⟩, e, ne, ht, fun j d' a b f => ?_, fun j m a b => ?_⟩
        · rw [List.getElem?_set_ne (nx j a)] at f
          obtain ⟨u, p, r⟩ := val j d' a b f
          exact ⟨u, p, X.rep r⟩
        · rw [own j m a b]; unfold Ctx.tagOf; rw [List.getElem?_set_ne (nx j a)]
    · by_cases q : j = K.L
      · subst q; exact ⟨lo, (tg _ (Ne.symm cne)).trans lz.tag, (hsb.2 _ (Ne.symm cne)).trans lz.is⟩
      · obtain ⟨oj, z⟩ := V.ids j m
        exact ⟨oj, c0.keep (.mu j) (fun e => q (by cases e; rfl)) _ _ z⟩
theorem load_ok {M : Model} {A : Around} {E : Value → Shared → Prop} {i : Nat} {x : Str} {d : D} {Q : Value → Shared → Prop} (o : KOk K) (V : EnvOk K w ρ) (hi : K.ns[i]? = some x) (hk : K.env.kindOf x = some .local ∨ K.Cl x)
    (hx : (x == ("__classdict__" : Str)) = false) (hr : ρ[i]? = some (some d)) (hq : ∀ v, Rep K.C w d v → Q v w.s) : wpAny M A (loadName K.env x) Q E w.s := by
  rcases hk with hk | hk
  · obtain ⟨lo, es, ep, lz, le, sk, lval⟩ := V.loc
    obtain ⟨v, a, b⟩ := lval i x d hi hk hr
    exact wpAny_loadName_local o.kind hk ⟨lo, es, ep, lz.is, le, sk, fun u0 => rfl⟩ a (hq v b)
  · obtain ⟨c, hcl⟩ := o.has x hk
    obtain ⟨co, ov, t, cz, ce, u1, u2, cval, u3⟩ := V.cel x c hcl
    obtain ⟨v, rfl, b⟩ := cval i d hi hk hr
    rcases hk with hk | hk
    · exact wpAny_loadName_cell o.kind hk hcl ⟨co, cz.is, ce⟩ (hq v b)
    · exact wpAny_loadName_free o.kind hk hcl ⟨co, cz.is, ce⟩ (hq v b) hx
end
end Mine
end
section
open PySem PySem.W PyProof.Rows
namespace Mine
noncomputable abbrev Cx.M (C : Cx) : Model := model C.prog C.w
theorem Rm.room {k : Nat} {A : Around} (h : Rm k A) : A.depth < recursionLimit := Nat.lt_of_le_of_lt (Nat.le_add_right _ _) h.depth
theorem Rm.unit64 {k : Nat} {A : Around} (h : Rm k A) : A.units + 64 < cLine := by have := h.units; omega
theorem Rm.unit {k : Nat} {A : Around} (h : Rm k A) : A.units < cLine := Nat.lt_of_le_of_lt (Nat.le_add_right _ _) h.unit64
theorem Rm.in1 {k : Nat} {A : Around} (h : Rm (k + 1) A) : Rm k A.in1 := ⟨h.handled, by have := h.depth; show A.depth + k < _; omega, by have := h.units; show A.units + 1 + 10 * k + 100 < _; omega⟩
theorem Rm.deeper {k : Nat} {A : Around} (h : Rm (k + 1) A) (env : Env) : Rm k (A.deeper env) := ⟨h.handled, by have := h.depth; show A.depth + 1 + k < _; omega, by have := h.units; show A.units + 3 + 10 * k + 100 < _; omega⟩
inductive Out (C : Cx) (w : W) (σ : St) (d : D) (v : Value) : Shared → Prop
  | mk (w' : W) (x : Step NoF w w') (I : Inv C σ w') (r : Rep C w' d v) : Out C w σ d v w'.s
inductive OutL (C : Cx) (w : W) (σ : St) (l : List D) (vs : List Value) : Shared → Prop
  | mk (w' : W) (x : Step NoF w w') (I : Inv C σ w') (r : RepL C w' l vs) : OutL C w σ l vs w'.s
inductive OutB (C : Cx) (w : W) (σ : St) (b : Bool) : Bool → Shared → Prop
  | mk (w' : W) (x : Step NoF w w') (I : Inv C σ w') : OutB C w σ b b w'.s
section
variable {C : Cx} {w w' : W} {σ : St} {d : D} {v : Value} {l m : List D} {vs ws : List Value} {h : Heap} {t : Tok}
theorem grow_chg (hk : ∀ b o, w.s.heap.get? b = some o → h.get? b = some o) : Chg NoX w (w.put [] .fz h t []) := .put fun u0 u0 b o z => ⟨List.not_mem_nil, hk b o z.is⟩
theorem Step.grow {F : Addr → Prop} (hk : ∀ b o, w.s.heap.get? b = some o → h.get? b = some o) : Step F w (w.put [] .fz h t []) := (grow_chg hk).step id fun u0 q => q.elim
theorem Inv.grow (I : Inv C σ w) (hk : ∀ b o, w.s.heap.get? b = some o → h.get? b = some o) : Inv C σ (w.put [] .fz h t []) := I.put (grow_chg hk) id (fun u0 => id) (fun u0 m => nomatch m) (fun b ⟨o, e⟩ => ⟨o, hk b o e⟩) (fun u0 m => nomatch m) (fun u0 e => nomatch e) fun u0 e => nomatch e
theorem out_here (I : Inv C σ w) (r : Rep C w d v) : Out C w σ d v w.s := ⟨w, .refl _ _, I, r⟩
theorem Out.after (x : Step NoF w w') {s : Shared} : Out C w' σ d v s → Out C w σ d v s
  | ⟨w₂, a, b, c⟩ => ⟨w₂, x.trans a, b, c⟩
theorem OutB.after (x : Step NoF w w') {b c : Bool} {s : Shared} : OutB C w' σ b c s → OutB C w σ b c s
  | ⟨w₂, a, e⟩ => ⟨w₂, x.trans a, e⟩
theorem out_toks (I : Inv C σ w) (r : ∀ w' : W, Mono w w' → Rep C w' d v) (t : Tok) : Out C w σ d v { w.s with toks := t } :=
  ⟨w.put [] .fz w.s.heap t [], .grow fun u0 u0 e => e, I.grow fun u0 u0 e => e, r _ (Step.grow (F := NoF) fun u0 u0 e => e).toMono⟩
theorem out_int (I : Inv C σ w) (i : Int) (k t : Tok) : Out C w σ (.int i) (.int i k) { w.s with toks := t } := out_toks (d := .int i) (v := .int i k) I (fun u0 u0 => ⟨k, rfl⟩) t
theorem out_str (I : Inv C σ w) (i : Str) (k t : Tok) : Out C w σ (.str i) (.str i k) { w.s with toks := t } := out_toks (d := .str i) (v := .str i k) I (fun u0 u0 => ⟨k, rfl⟩) t
theorem out_bool (I : Inv C σ w) (b : Bool) (t : Tok) : Out C w σ (.bool b) (.bool b) { w.s with toks := t } := out_toks (d := .bool b) (v := .bool b) I (fun u0 u0 => rfl) t
theorem out_rep (I : Inv C σ w) (r : Rep C w d v) (t : Tok) : Out C w σ d v { w.s with toks := t } := out_toks I (fun u0 M => Rep.mono M d v r) t
theorem outB_toks (I : Inv C σ w) (b : Bool) (t : Tok) : OutB C w σ b b { w.s with toks := t } := ⟨w.put [] .fz w.s.heap t [], .grow fun u0 u0 e => e, I.grow fun u0 u0 e => e⟩
theorem RepL.length : ∀ {l : List D} {vs : List Value}, RepL C w l vs → vs.length = l.length
  | [], _, r => congrArg _ r
  | _ :: _, _, ⟨_, _, _, b⟩ => congrArg (· + 1) (RepL.length b)
theorem RepL.get : ∀ {l : List D} {vs : List Value}, RepL C w l vs → ∀ {i : Nat} {d : D}, l[i]? = some d → ∃ v, vs[i]? = some v ∧ Rep C w d v
  | [], _, _, _, _, e => nomatch e
  | _ :: _, _, ⟨v, _, a, _⟩, 0, _, e => by cases e; exact ⟨v, rfl, a⟩
  | _ :: _, _, ⟨_, _, _, b⟩, i + 1, _, e => RepL.get b e
theorem RepL.append : ∀ {l m : List D} {vs ws : List Value}, RepL C w l vs → RepL C w m ws → RepL C w (l ++ m) (vs ++ ws)
  | [], _, _, _, r, q => by cases r; exact q
  | _ :: _, _, _, _, ⟨v, _, a, b⟩, q => ⟨v, _, a, RepL.append b q⟩
theorem RepL.take : ∀ {l : List D} {vs : List Value} (n : Nat), RepL C w l vs → RepL C w (l.take n) (vs.take n)
  | [], _, n, r => by cases r; rw [List.take_nil, List.take_nil]; rfl
  | _ :: _, _, 0, _ => rfl
  | _ :: _, _, n + 1, ⟨v, _, a, b⟩ => ⟨v, _, a, RepL.take n b⟩
theorem RepL.drop : ∀ {l : List D} {vs : List Value} (n : Nat), RepL C w l vs → RepL C w (l.drop n) (vs.drop n)
  | [], _, n, r => by cases r; rw [List.drop_nil, List.drop_nil]; rfl
  | _ :: _, _, 0, r => r
  | _ :: _, _, n + 1, ⟨_, _, _, b⟩ => RepL.drop n b
theorem RepL.pick (r : RepL C w l vs) : ∀ (is : List Nat), RepL C w (is.filterMap (l[·]?)) (is.filterMap (vs[·]?))
  | [] => rfl
  | i :: is => by
    cases q : l[i]? with
    | none =>
      rw [List.filterMap_cons, q, List.filterMap_cons, List.getElem?_eq_none_iff.mpr (r.length ▸ List.getElem?_eq_none_iff.mp q)]; exact RepL.pick r is
    | some d =>
      obtain ⟨v, e, a⟩ := r.get q
      rw [List.filterMap_cons, q, List.filterMap_cons, e]; exact ⟨v, _, a, RepL.pick r is⟩
theorem out_seq (I : Inv C σ w) (T : String) (t : Tok) (r : RepL C w l vs) (hr : ∀ w' a, HSeq w' .fz T (RepL C w' l) a → Rep C w' d (.ref a)) : Out C w σ d (.ref w.s.heap.objs.size) { w.s with heap := w.s.heap.push (seqObj T vs 0), toks := t } :=
  have hk : ∀ b o, w.s.heap.get? b = some o → (w.s.heap.push (seqObj T vs 0)).get? b = some o := fun u0 u0 e => Heap.get?_push_of_some _ e
  have x : Step NoF w (w.put [] .fz (w.s.heap.push (seqObj T vs 0)) t []) := .grow hk
  ⟨_, x, I.grow hk, hr _ _ ⟨vs, 0, ⟨I.dead _ (dead_of fun ⟨_, q⟩ => Nat.lt_irrefl _ (Heap.lt_size q)), Heap.get?_push_size _ rfl⟩, x.repL r⟩⟩
theorem out_list (I : Inv C σ w) (t : Tok) (r : RepL C w l vs) : Out C w σ (.lst l) (.ref w.s.heap.objs.size) { w.s with heap := w.s.heap.push (seqObj "list" vs 0), toks := t } := out_seq I _ t r fun u0 a z => ⟨a, z⟩
theorem out_tup (I : Inv C σ w) (t : Tok) (r : RepL C w l vs) : Out C w σ (.tup l) (.ref w.s.heap.objs.size) { w.s with heap := w.s.heap.push (seqObj "tuple" vs 0), toks := t } := out_seq I _ t r fun u0 a z => ⟨a, z⟩
inductive IsL (σ : St) : D → List D → Prop
  | z (l : List D) : IsL σ (.lst l) l
  | o {n : Nat} {l : List D} (h : σ[n]? = some (.lst l)) : IsL σ (.loc n) l
inductive IsS (σ : St) : D → List (Str × D) → Prop
  | z (l : List (Str × D)) : IsS σ (.ds l) l
  | o {n : Nat} {l : List (Str × D)} (h : σ[n]? = some (.ds l)) : IsS σ (.loc n) l
inductive IsI (σ : St) : D → List (Int × D) → Prop
  | z (l : List (Int × D)) : IsI σ (.di l) l
  | o {n : Nat} {l : List (Int × D)} (h : σ[n]? = some (.di l)) : IsI σ (.loc n) l
theorem IsL.at (q : IsL σ d l) (I : Inv C σ w) (r : Rep C w d v) : ∃ t, HRef (HSeq w t "list" (RepL C w l)) v := match q, r with
  | .z _, r => ⟨_, r⟩
  | .o h, ⟨a, e, q⟩ => ⟨_, by rw [q]; exact ⟨a, I.ok _ _ _ h e⟩⟩
theorem IsS.at {l : List (Str × D)} (q : IsS σ d l) (I : Inv C σ w) (r : Rep C w d v) : ∃ t, HRef (HDict w t (IsDs C) (RepS C w l)) v := match q, r with
  | .z _, r => ⟨_, r⟩
  | .o h, ⟨a, e, q⟩ => ⟨_, by rw [q]; exact ⟨a, I.ok _ _ _ h e⟩⟩
theorem IsI.at {l : List (Int × D)} (q : IsI σ d l) (I : Inv C σ w) (r : Rep C w d v) : ∃ t, HRef (HDict w t (IsDi C) (RepI C w l)) v := match q, r with
  | .z _, r => ⟨_, r⟩
  | .o h, ⟨a, e, q⟩ => ⟨_, by rw [q]; exact ⟨a, I.ok _ _ _ h e⟩⟩
end
end Mine
end
section
open PySem PySem.W PyProof.Rows
namespace Mine
theorem sizeLine_is : sizeLine = 16777216 := by decide
theorem foldl_app (l : List (Array Nat)) : ∀ acc : Array Nat, (l.foldl (· ++ ·) acc).toList = acc.toList ++ (l.map Array.toList).flatten := by
  induction l with
  | nil => intro acc; exact (List.append_nil _).symm
  | cons a r ih => intro acc; rw [List.foldl_cons, ih, Array.toList_append, List.append_assoc]; rfl
noncomputable def BinOk (op : Operator) (a b d : D) : Prop := ∀ ⦃C : Cx⦄ ⦃A : Around⦄ ⦃σ : St⦄ ⦃w : W⦄ ⦃va vb : Value⦄ ⦃E : Value → Shared → Prop⦄, Inv C σ w → Rep C w a va → Rep C w b vb → wpAny C.M A (binaryOp op va vb) (Out C w σ d) E w.s
section
variable {i j : Int} {x y : Str}
theorem noPy (h : j.natAbs < 2 ^ 63) : Builtin.divisionGoesByPylong i j = false := by
  refine PyProof.noPylong_of_log2 ?_
  by_cases h0 : j.natAbs = 0
  · rw [h0]; decide
  · exact Nat.lt_of_lt_of_le ((Nat.log2_lt h0).mpr h) (by decide)
theorem bin_add : BinOk .Add (.int i) (.int j) (.int (i + j)) := fun u0 u0 u0 u0 u0 u0 u0 I ⟨_, e⟩ ⟨_, e'⟩ => by subst e e'; exact PyProof.Rows.add_int (out_int I _ _ _)
theorem bin_sub : BinOk .Sub (.int i) (.int j) (.int (i - j)) := fun u0 u0 u0 u0 u0 u0 u0 I ⟨_, e⟩ ⟨_, e'⟩ => by subst e e'; exact PyProof.Rows.sub_int (out_int I _ _ _)
theorem bin_mul (h : i.natAbs < 2 ^ 63 ∨ j.natAbs < 2 ^ 63) : BinOk .Mult (.int i) (.int j) (.int (i * j)) := fun u0 u0 u0 u0 u0 u0 u0 I ⟨_, e⟩ ⟨_, e'⟩ => by
  subst e e'; exact PyProof.Rows.mul_int (out_int I _ _ _) (h.elim (fun h => .of_left (intBits_le_64 (by omega) (by omega))) fun h => .of_right (intBits_le_64 (by omega) (by omega)))
theorem bin_fdiv (h : j ≠ 0) (h' : j.natAbs < 2 ^ 63) : BinOk .FloorDiv (.int i) (.int j) (.int (i.fdiv j)) := fun u0 u0 u0 u0 u0 u0 u0 I ⟨_, e⟩ ⟨_, e'⟩ => by subst e e'; exact PyProof.Rows.floordiv_int h (out_int I _ _ _) (.inl (noPy h'))
theorem bin_fmod (h : j ≠ 0) : BinOk .Mod (.int i) (.int j) (.int (i.fmod j)) := fun u0 u0 u0 u0 u0 u0 u0 I ⟨_, e⟩ ⟨_, e'⟩ => by subst e e'; exact PyProof.Rows.mod_int' h (out_int I _ _ _)
theorem bin_pow (h : i.natAbs < 2 ^ 63) (h0 : 0 ≤ j) (h1 : j ≤ 1000) : BinOk .Pow (.int i) (.int j) (.int (i ^ j.toNat)) := fun u0 u0 u0 u0 u0 u0 u0 I ⟨_, e⟩ ⟨_, e'⟩ => by subst e e'; exact PyProof.Rows.pow_int_small h0 (by omega) (Nat.lt_trans h (by decide)) (out_int I _ _ _)
theorem bin_shl (h : i.natAbs < 2 ^ 63) (h0 : 0 ≤ j) (h1 : j ≤ 1000) : BinOk .LShift (.int i) (.int j) (.int (i * 2 ^ j.toNat)) := fun u0 u0 u0 u0 u0 u0 u0 I ⟨_, e⟩ ⟨_, e'⟩ => by subst e e'; exact PyProof.Rows.lshift_int_small h0 (by omega) (Nat.lt_trans h (by decide)) (out_int I _ _ _)
theorem bin_and : BinOk .BitAnd (.int i) (.int j) (.int (Builtin.bitAnd i j)) := fun u0 u0 u0 u0 u0 u0 u0 I ⟨_, e⟩ ⟨_, e'⟩ => by subst e e'; exact PyProof.Rows.and_int (out_int I _ _ _)
theorem bin_adds (h : x.length + y.length ≤ 16777216) : BinOk .Add (.str x) (.str y) (.str (x ++ y)) := fun u0 u0 u0 u0 u0 u0 u0 I ⟨_, e⟩ ⟨_, e'⟩ => by subst e e'; exact PyProof.Rows.add_str (fun u0 u0 => out_str I _ _ _) (by rw [sizeLine_is]; exact h)
theorem bin_addl {a b : List D} (h : a.length + b.length ≤ 16777216) : BinOk .Add (.lst a) (.lst b) (.lst (a ++ b)) := fun u0 u0 u0 u0 u0 u0 u0 I ⟨_, vs, n, z, r⟩ ⟨_, ws, m, z', r'⟩ =>
  PySem.P.add_list (items := vs.toArray) (items2 := ws.toArray) z.is z'.is (by rw [List.append_toArray]; exact out_list I _ (r.append r')) (by rw [sizeLine_is, List.size_toArray, List.size_toArray, r.length, r'.length]; exact h)
noncomputable def reps (n : Nat) (x : Str) : Str := ⟨(List.replicate n x.cps.toList).flatten.toArray⟩
theorem bin_muls (h : x.length = 1) (h0 : 0 ≤ j) (h1 : j ≤ 1000) : BinOk .Mult (.str x) (.int j) (.str (reps j.toNat x)) := fun u0 u0 u0 u0 u0 u0 u0 I ⟨_, e⟩ ⟨_, e'⟩ => by
  subst e e'
  have hn : j.toNat ≤ 1000 := by omega
  have hs : x.length * j.toNat = j.toNat := by rw [h, Nat.one_mul]
  have key : (⟨(List.replicate j.toNat x.cps).foldl (· ++ ·) #[]⟩ : Str) = reps j.toNat x := congrArg Str.mk (Array.toList_inj.mp (by rw [foldl_app]; simp))
  have len : (reps j.toNat x).length ≤ sizeLine := by
    rw [sizeLine_is]; show (List.replicate j.toNat x.cps.toList).flatten.toArray.size ≤ _
    rw [List.size_toArray, List.length_flatten, List.map_replicate, List.sum_replicate_nat, show x.cps.toList.length = 1 from h, Nat.mul_one]; omega
  refine PySem.P.mul_str (by simp; omega) (fun u0 u0 => ?_) (fun u0 u0 => decide_eq_false (by rw [sizeLine_is]; show ¬ x.length * _ > _; omega)) ?_
  · have := Int.le_ediv_of_mul_le (a := 1000) (b := 2 ^ 63 - 1) (c := j) (by omega) (by omega)
    omega
  · split
    · rename_i h1
      refine ⟨by rw [sizeLine_is]; decide, ?_⟩
      rw [show (Str.empty : Str) = reps j.toNat x by rw [show j.toNat = 0 by omega]; rfl]; exact out_str I _ _ _
    · split
      · rename_i h1 h2
        simp only [Bool.or_eq_true, beq_iff_eq] at h2
        have e : x = reps j.toNat x := by
          rcases h2 with h2 | h2
          · subst h2; cases x; simp [reps]
          · rw [h2] at h; cases h
        exact out_here I ⟨_, by rw [← e]⟩
      · rw [key]; exact ⟨len, out_str I _ _ _⟩
end
end Mine
end
section
open PySem PySem.W PyProof.Rows
namespace Mine
noncomputable def Rd (σ : St) (d : D) (p : PyData) : Prop := ∀ ⦃C : Cx⦄ ⦃w : W⦄ ⦃v : Value⦄, Inv C σ w → Rep C w d v → ∃ as, Reads w.s.heap v p as
noncomputable def RdL (σ : St) (l : List D) (ps : List PyData) : Prop := ∀ ⦃C : Cx⦄ ⦃w : W⦄ ⦃vs : List Value⦄, Inv C σ w → RepL C w l vs → ∃ as, ReadsAll w.s.heap vs ps as
section
variable {σ : St} {d : D} {p : PyData} {l : List D} {ps : List PyData}
theorem rd_int {i : Int} : Rd σ (.int i) (.int i) := fun u0 u0 u0 u0 ⟨t, e⟩ => e ▸ ⟨_, .int i t⟩
theorem rd_str {i : Str} : Rd σ (.str i) (.str i) := fun u0 u0 u0 u0 ⟨t, e⟩ => e ▸ ⟨_, .str i t⟩
theorem rdL_nil : RdL σ [] [] := fun u0 u0 u0 u0 r => by cases r; exact ⟨_, .nil⟩
theorem rdL_cons (a : Rd σ d p) (b : RdL σ l ps) : RdL σ (d :: l) (p :: ps) := fun u0 u0 u0 I ⟨_, _, x, y⟩ => let ⟨_, p⟩ := a I x; let ⟨_, q⟩ := b I y; ⟨_, .cons p q⟩
theorem rdL_map {α : Type} {f : α → D} {g : α → PyData} : ∀ {l : List α}, (∀ x ∈ l, Rd σ (f x) (g x)) → RdL σ (l.map f) (l.map g)
  | [], _ => rdL_nil
  | _ :: _, h => rdL_cons (h _ (.head _)) (rdL_map fun x m => h x (.tail _ m))
theorem rd_tup (a : RdL σ l ps) : Rd σ (.tup l) (.tuple ps) := fun u0 u0 u0 I ⟨_, _, _, z, r⟩ => let ⟨_, q⟩ := a I r; ⟨_, reads_tuple_at z.is rfl rfl (by rw [List.toList_toArray]; exact q)⟩
theorem rd_lst {a : D} (i : IsL σ a l) (q : RdL σ l ps) : Rd σ a (.list ps) := fun u0 u0 u0 I r => by
  obtain ⟨u1, u2, u3, u4, z, r⟩ := i.at I r
  obtain ⟨u1, q⟩ := q I r
  exact ⟨_, reads_list_at z.is rfl rfl (by rw [List.toList_toArray]; exact q)⟩
end
inductive OnB (c : Bool) (w : W) : Value → Shared → Prop
  | mk (t : Tok) : OnB c w (.bool c) { w.s with toks := t }
noncomputable def CmpOk (σ : St) (op : CmpOp) (a b : D) (c : Bool) : Prop := ∀ ⦃C : Cx⦄ ⦃A : Around⦄ ⦃w : W⦄ ⦃va vb : Value⦄ ⦃E : Value → Shared → Prop⦄, A.units + 64 < cLine → Inv C σ w → Rep C w a va → Rep C w b vb → wpAny C.M A (compareOp op va vb) (OnB c w) E w.s
section
variable {σ : St} {i j : Int} {x y : Str} {a b : D} {p q : PyData}
theorem cmp_lt : CmpOk σ .Lt (.int i) (.int j) (decide (i < j)) := fun u0 u0 u0 u0 u0 u0 u0 I ⟨_, e⟩ ⟨_, e'⟩ => by subst e e'; exact PySem.P.lt_int ⟨_⟩
theorem cmp_gt : CmpOk σ .Gt (.int i) (.int j) (decide (i > j)) := fun u0 u0 u0 u0 u0 u0 u0 I ⟨_, e⟩ ⟨_, e'⟩ => by subst e e'; exact PySem.P.gt_int ⟨_⟩
theorem cmp_lts : CmpOk σ .Lt (.str x) (.str y) (decide (x.cps.toList < y.cps.toList)) := fun u0 u0 u0 u0 u0 u0 u0 I ⟨_, e⟩ ⟨_, e'⟩ => by subst e e'; exact PySem.P.lt_str ⟨_⟩
theorem cmp_gts : CmpOk σ .Gt (.str x) (.str y) (decide (y.cps.toList < x.cps.toList)) := fun u0 u0 u0 u0 u0 u0 u0 I ⟨_, e⟩ ⟨_, e'⟩ => by subst e e'; exact PySem.P.gt_str ⟨_⟩
theorem cmp_eqi : CmpOk σ .Eq (.int i) (.int j) (i == j) := fun u0 u0 u0 u0 u0 u0 u0 I ⟨_, e⟩ ⟨_, e'⟩ => by subst e e'; exact PyProof.Rows.eq_int ⟨_⟩
theorem cmp_nei : CmpOk σ .NotEq (.int i) (.int j) (!(i == j)) := fun u0 u0 u0 u0 u0 u0 u0 I ⟨_, e⟩ ⟨_, e'⟩ => by subst e e'; exact PyProof.Rows.ne_int ⟨_⟩
theorem cmp_eqs : CmpOk σ .Eq (.str x) (.str y) (x == y) := fun u0 u0 u0 u0 u0 u0 u0 I ⟨_, e⟩ ⟨_, e'⟩ => by subst e e'; exact PyProof.Rows.eq_str ⟨_⟩
theorem cmp_nes : CmpOk σ .NotEq (.str x) (.str y) (!(x == y)) := fun u0 u0 u0 u0 u0 u0 u0 I ⟨_, e⟩ ⟨_, e'⟩ => by subst e e'; exact PyProof.Rows.ne_str ⟨_⟩
theorem cmp_ins : CmpOk σ .In (.str x) (.str y) (!(Builtin.Str.occurrences y x 0 y.length 1).isEmpty) := fun u0 u0 u0 u0 u0 u0 u0 I ⟨_, e⟩ ⟨_, e'⟩ => by subst e e'; exact PySem.P.in_str ⟨_⟩
theorem cmp_eqd (ra : Rd σ a p) (rb : Rd σ b q) (sa : SeqAt.shaped p = true) (sb : SeqAt.shaped q = true) : CmpOk σ .Eq a b (PyData.eqv p q) := fun u0 u0 u0 u0 u0 u0 u I r r' => let ⟨_, x⟩ := ra I r; let ⟨_, y⟩ := rb I r'; eq_dataH x y sa sb u ⟨_⟩
theorem cmp_ned (ra : Rd σ a p) (rb : Rd σ b q) (sa : SeqAt.shaped p = true) (sb : SeqAt.shaped q = true) : CmpOk σ .NotEq a b (!PyData.eqv p q) := fun u0 u0 u0 u0 u0 u0 u I r r' => let ⟨_, x⟩ := ra I r; let ⟨_, y⟩ := rb I r'; ne_dataH x y sa sb u ⟨_⟩
theorem repL_strs {C : Cx} {w : W} : ∀ {ss : List Str} {vs : List Value}, RepL C w (ss.map .str) vs → ∃ ts : List (Str × Tok), ts.map (·.1) = ss ∧ vs = strValues ts
  | [], _, r => by cases r; exact ⟨[], rfl, rfl⟩
  | x :: _, _, ⟨_, _, ⟨t, e⟩, b⟩ => by
    obtain ⟨ts, e1, e2⟩ := repL_strs b
    subst e e1 e2; exact ⟨(x, t) :: ts, rfl, rfl⟩
theorem repL_ints {C : Cx} {w : W} : ∀ {ns : List Int} {vs : List Value}, RepL C w (ns.map .int) vs → IntsAre vs ns
  | [], _, r => by cases r; exact .nil
  | _ :: _, _, ⟨_, _, ⟨t, e⟩, b⟩ => by subst e; exact .cons _ _ (repL_ints b)
noncomputable def isStr (x : Str) : Value → Bool := fun v => match v with | .str y _ => y.cps.toList == x.cps.toList | _ => false
theorem strs_eqg {x : Str} {t : Tok} (ts : List (Str × Tok)) : ∀ y, y ∈ (strValues ts).toArray → PySem.MeetsSeq.EqGives y (.str x t) (isStr x y) := fun y hy => by
  obtain ⟨⟨z, u⟩, u1, rfl⟩ := List.mem_map.mp (List.mem_toArray.mp hy)
  exact PySem.SeqRoads2.EqGives.str z x u t
theorem strs_any (ts : List (Str × Tok)) (x : Str) : (strValues ts).toArray.any (isStr x) = (ts.map (·.1)).any (· == x) := by
  rw [List.any_toArray]
  induction ts with
  | nil => rfl
  | cons p r ih => exact congr (congrArg _ (by rw [Bool.eq_iff_iff]; show (p.1.cps.toList == x.cps.toList) = true ↔ _; rw [beq_iff_eq, beq_iff_eq]; exact ⟨fun q => by cases p with | mk y t => cases y; cases x; exact congrArg Str.mk (Array.toList_inj.mp q), fun q => congrArg (·.cps.toList) q⟩)) ih
theorem cmp_ninl {ss : List Str} (i : IsL σ b (ss.map .str)) : CmpOk σ .NotIn (.str x) b (!ss.any (· == x)) := fun u0 u0 u0 u0 u0 u0 u0 I ⟨_, e⟩ r' => by
  obtain ⟨u1, u2, u3, u4, z, r⟩ := i.at I r'
  obtain ⟨ts, rfl, rfl⟩ := repL_strs r
  subst e; exact PySem.SeqRoads2.notIn_list _ (strs_eqg ts) z.is (by rw [strs_any]; exact ⟨_⟩)
theorem ref_sys {a : Addr} (h : a ≠ sysModules) : (a == sysModules) = false := beq_false_of_ne h
noncomputable def RepK {κ : Type} (C : Cx) (w : W) : List (κ × D) → List (κ × Value) → Prop
  | [] => fun vs => vs = []
  | (k, d) :: l => HKV k (Rep C w d) (RepK C w l)
theorem repS_K {C : Cx} {w : W} : ∀ l, RepS C w l = RepK C w l
  | [] => rfl
  | (k, d) :: l => congrArg (HKV k (Rep C w d)) (repS_K l)
theorem repI_K {C : Cx} {w : W} : ∀ l, RepI C w l = RepK C w l
  | [] => rfl
  | (k, d) :: l => congrArg (HKV k (Rep C w d)) (repI_K l)
section
variable {κ : Type} [DecidableEq κ]
theorem valueAt_cons (j : κ) (v : Value) (r : List (κ × Value)) (k : κ) : valueAt ((j, v) :: r) k = if j = k then some v else valueAt r k := by
  unfold valueAt
  rw [List.find?_cons]
  by_cases q : j = k
  · rw [if_pos q, decide_eq_true q]; rfl
  · rw [if_neg q, decide_eq_false q]
theorem kget_K {C : Cx} {w : W} : ∀ {l : List (κ × D)} {kvs : List (κ × Value)} (k : κ), RepK C w l kvs → (kget l k = none ∧ valueAt kvs k = none) ∨ ∃ d v, kget l k = some d ∧ valueAt kvs k = some v ∧ Rep C w d v
  | [], _, _, r => by cases r; exact .inl ⟨rfl, rfl⟩
  | (j, d) :: l, _, k, ⟨v, r, a, b⟩ => by
    rw [valueAt_cons]
    show ((if j = k then some d else kget l k) = none ∧ _) ∨ ∃ d' v', (if j = k then some d else kget l k) = some d' ∧ _
    by_cases q : j = k
    · rw [if_pos q, if_pos q]; exact .inr ⟨d, v, rfl, rfl, a⟩
    · rw [if_neg q, if_neg q]; exact kget_K k b
end
theorem ds_mapOf {C : Cx} {w : W} {t : Tag} {a : Addr} {o : Obj} {kvs : List (Str × Value)} (z : At w t a o) (d : IsDs C o kvs) : w.s.heap.DictOf (strKind C.prog C.w) a kvs := Heap.dictOf_iff.mpr ⟨o, z.is, d⟩
theorem di_mapOf {C : Cx} {w : W} {t : Tag} {a : Addr} {o : Obj} {kvs : List (Int × Value)} (z : At w t a o) (d : IsDi C o kvs) : w.s.heap.DictOf (intKind C.prog C.w) a kvs := Heap.dictOf_iff.mpr ⟨o, z.is, d⟩
theorem cmp_ind {l : List (Str × D)} (i : IsS σ b l) : CmpOk σ .In (.str x) b (kget l x).isSome := fun u0 u0 u0 u0 u0 u0 u0 I ⟨_, e⟩ r' => by
  obtain ⟨u1, u2, o, kvs, ne, z, d, r⟩ := i.at I r'
  subst e
  refine wpAny_in_of (strKind_is _ _ _ _) (ref_sys ne) (ds_mapOf z d).mapOf ?_
  rcases kget_K x (repS_K l ▸ r) with ⟨e1, e2⟩ | ⟨_, _, e1, e2, _⟩ <;> rw [e1, e2] <;> exact ⟨_⟩
end
end Mine
end
section
open PySem PySem.W PyProof.Rows
namespace Mine
inductive OnT (c : Bool) (w : W) : Bool → Shared → Prop
  | mk (t : Tok) : OnT c w c { w.s with toks := t }
noncomputable def TruthOk (σ : St) (a : D) (c : Bool) : Prop := ∀ ⦃C : Cx⦄ ⦃A : Around⦄ ⦃w : W⦄ ⦃va : Value⦄ ⦃E : Value → Shared → Prop⦄, Inv C σ w → Rep C w a va → wpAny C.M A (truthy va) (OnT c w) E w.s
inductive OnV (C : Cx) (d : D) (w : W) (v : Value) : Shared → Prop
  | mk (t : Tok) (r : Rep C w d v) : OnV C d w v { w.s with toks := t }
noncomputable def IdxOk (σ : St) (a b d : D) : Prop := ∀ ⦃C : Cx⦄ ⦃A : Around⦄ ⦃w : W⦄ ⦃va vb : Value⦄ ⦃E : Value → Shared → Prop⦄, Inv C σ w → Rep C w a va → Rep C w b vb → ItemOn C.M A E va vb (OnV C d w) w.s
section
variable {σ : St} {a d : D} {l : List D} {i : Int} {x : Str} {j : Nat}
theorem truth_bool {b : Bool} : TruthOk σ (.bool b) b := fun u0 u0 u0 u0 u0 u0 e => by cases e; exact wpAny_truthy_bool ⟨_⟩
theorem truth_int : TruthOk σ (.int i) (i != 0) := fun u0 u0 u0 u0 u0 u0 ⟨_, e⟩ => by subst e; exact PySem.P.truthy_int ⟨_⟩
theorem truth_lst (q : IsL σ a l) (h : l.length ≤ 16777216) : TruthOk σ a (!l.isEmpty) := fun C u0 w u0 u0 I r => by
  obtain ⟨u1, p, vs, n, z, r⟩ := q.at I r
  have hl := r.length
  refine wpAny_truthy_list (items := vs.toArray) ⟨_, z.is, rfl, n, rfl⟩ (by rw [List.size_toArray]; omega) ?_
  rw [show (!vs.toArray.isEmpty) = !l.isEmpty by cases vs <;> cases l <;> first | rfl | cases hl]
  exact ⟨_⟩
theorem seqIndex_nat {j n : Nat} (h : j < n) : seqIndex? (j : Int) n = some j := by
  unfold seqIndex?
  rw [if_neg (Int.not_lt.mpr (Int.natCast_nonneg j)), if_pos (by rw [decide_eq_true (Int.natCast_nonneg j), decide_eq_true (Int.ofNat_lt.mpr h)]; rfl)]; rfl
theorem get_lt {α : Type} {l : List α} {x : α} (h : l[j]? = some x) : j < l.length := (List.getElem?_eq_some_iff.mp h).1
theorem idx_lst (q : IsL σ a l) (h : l[j]? = some d) (hj : j < 2 ^ 63) : IdxOk σ a (.int j) d := fun u0 u0 u0 u0 u0 u0 I r ⟨_, e⟩ => by
  subst e
  obtain ⟨u1, p, vs, n, z, r⟩ := q.at I r
  obtain ⟨v, h3, h4⟩ := r.get h
  exact ⟨_, _, F.slot_list_getitem.lookup, ⟨_, z.is, rfl⟩, wpAny_getItem_list (items := vs.toArray) ⟨_, z.is, rfl, n, rfl⟩ (Int.natCast_nonneg j) (by omega) (List.getElem?_toArray.trans h3) ⟨_, h4⟩⟩
theorem idx_last (q : IsL σ a (l ++ [d])) (h : l.length < 2 ^ 62) : IdxOk σ a (.int (-1)) d := fun u0 u0 u0 u0 u0 u0 I r ⟨_, e⟩ => by
  subst e
  obtain ⟨u1, p, vs, n, z, r⟩ := q.at I r
  have hl := r.length
  rw [List.length_append] at hl
  obtain ⟨v, h3, h4⟩ := r.get (i := l.length) (d := d) (by rw [List.getElem?_append_right (Nat.le_refl _), Nat.sub_self]; rfl)
  refine ⟨_, _, F.slot_list_getitem.lookup, ⟨_, z.is, rfl⟩, wpAny_getItem_list_neg (items := vs.toArray) ⟨_, z.is, rfl, n, rfl⟩ (by decide) (by rw [List.size_toArray, hl]; show -((l.length + 1 : Nat) : Int) ≤ _; omega) (by decide) ?_ ⟨_, h4⟩⟩
  rw [List.size_toArray, hl, show (-1 + ((l.length + [d].length : Nat) : Int)).toNat = l.length by show (-1 + ((l.length + 1 : Nat) : Int)).toNat = _; omega]
  exact List.getElem?_toArray.trans h3
theorem idx_tup (h : l[j]? = some d) (hj : j < 2 ^ 62) : IdxOk σ (.tup l) (.int j) d := fun u0 u0 u0 u0 u0 u0 I ⟨_, vs, n, z, r⟩ ⟨_, e⟩ => by
  subst e
  obtain ⟨v, h3, h4⟩ := r.get h
  exact ⟨_, _, F.slot_tuple_getitem.lookup, ⟨_, z.is, rfl⟩, PySem.P.getItem_tuple (items := vs.toArray) z.is (by omega) (by omega) (by rw [List.size_toArray, r.length]; exact seqIndex_nat (get_lt h)) (List.getElem?_toArray.trans h3) ⟨_, h4⟩⟩
theorem idx_str {c : Nat} (h : x.cps[j]? = some c) (hj : j < 2 ^ 62) : IdxOk σ (.str x) (.int j) (.str ⟨#[c]⟩) := fun u0 u0 u0 u0 u0 u0 I ⟨_, e⟩ ⟨_, e'⟩ => by
  subst e e'
  refine ⟨_, _, F.slot_str_getitem.lookup, typeIs_str _ _ _, PySem.P.getItem_str ?_ (by rw [seqIndex_nat (show j < x.length from (Array.getElem?_eq_some_iff.mp h).1)]; exact h) ⟨_, _, rfl⟩⟩
  rw [decide_eq_false (by omega), decide_eq_false (by omega)]; rfl
theorem idx_ds {l : List (Str × D)} (q : IsS σ a l) (h : kget l x = some d) : IdxOk σ a (.str x) d := fun u0 u0 u0 u0 u0 u0 I r ⟨_, e⟩ => by
  subst e
  obtain ⟨u1, u2, o, kvs, ne, z, dd, r⟩ := q.at I r
  rcases kget_K x (repS_K l ▸ r) with ⟨e1, _⟩ | ⟨_, v, e1, e2, r⟩
  · exact nomatch h.symm.trans e1
  · cases h.symm.trans e1; exact ⟨_, _, F.slot_dict_getitem.lookup, (ds_mapOf z dd).typeIs, wpAny_getItem_of (strKind_is _ _ _ _) (ds_mapOf z dd).mapOf e2 ⟨_, r⟩⟩
end
end Mine
end
section
open PySem PySem.W PyProof.Rows
namespace Mine
structure Ok (K : Ctx) (ρ : Rho) (σ : St) (w : W) : Prop where
  o : KOk K
  I : Inv K.C σ w
  V : EnvOk K w ρ
structure Nx (K : Ctx) (ρ : Rho) (σ : St) (d : D) (w w' : W) (v : Value) : Prop where
  x : Step NoF w w'
  p : Ok K ρ σ w'
  r : Rep K.C w' d v
section
variable (K : Ctx) (ρ : Rho)
noncomputable def TE (t : Sem Value) (σ : St) (d : D) (σ' : St) : Prop := ∀ ⦃w : W⦄ ⦃E : Value → Shared → Prop⦄, Ok K ρ σ w → wpAny K.C.M K.A t (Out K.C w σ' d) E w.s
noncomputable def TL (t : Sem (List Value)) (σ : St) (l : List D) (σ' : St) : Prop := ∀ ⦃w : W⦄ ⦃E : Value → Shared → Prop⦄, Ok K ρ σ w → wpAny K.C.M K.A t (OutL K.C w σ' l) E w.s
noncomputable def TB (t : Sem Bool) (σ : St) (b : Bool) (σ' : St) : Prop := ∀ ⦃w : W⦄ ⦃E : Value → Shared → Prop⦄, Ok K ρ σ w → wpAny K.C.M K.A t (OutB K.C w σ' b) E w.s
end
section
variable {K : Ctx} {ρ : Rho} {σ σ' σ₁ σ₂ σ₃ : St} {d a b c : D} {w : W} {E : Value → Shared → Prop} {i : Nat} {x : Str} {pos : Pos}
theorem Ok.next (p : Ok K ρ σ w) {w' : W} (x : Step NoF w w') (I : Inv K.C σ' w') : Ok K ρ σ' w' := ⟨p.o, I, p.V.stepN p.o x⟩
theorem TE.go {t : Sem Value} (h : TE K ρ t σ d σ') (p : Ok K ρ σ w) {Q : Value → Shared → Prop} (hq : ∀ v w', Nx K ρ σ' d w w' v → Q v w'.s) : wpAny K.C.M K.A t Q E w.s :=
  wpAny_mono (h p) (fun v u0 ⟨w', x, I, r⟩ => hq v w' ⟨x, p.next x I, r⟩) fun u0 u0 e => e
theorem TL.go {t : Sem (List Value)} {l : List D} (h : TL K ρ t σ l σ') (p : Ok K ρ σ w) {Q : List Value → Shared → Prop} (hq : ∀ vs w', Step NoF w w' → Ok K ρ σ' w' → RepL K.C w' l vs → Q vs w'.s) : wpAny K.C.M K.A t Q E w.s :=
  wpAny_mono (h p) (fun vs u0 ⟨w', x, I, r⟩ => hq vs w' x (p.next x I) r) fun u0 u0 e => e
theorem TB.go {t : Sem Bool} {q : Bool} (h : TB K ρ t σ q σ') (p : Ok K ρ σ w) {Q : Bool → Shared → Prop} (hq : ∀ w', Step NoF w w' → Ok K ρ σ' w' → Q q w'.s) : wpAny K.C.M K.A t Q E w.s :=
  wpAny_mono (h p) (fun u0 u0 ⟨w', x, I⟩ => hq w' x (p.next x I)) fun u0 u0 e => e
theorem TE_int {i : Int} {kd} : TE K ρ (eval (.Constant (.int i) kd pos) K.env) σ (.int i) σ := fun u0 u0 p => wpAny_Constant_int (out_int p.I i _ _)
theorem TE_str {kd} : TE K ρ (eval (.Constant (.str x) kd pos) K.env) σ (.str x) σ := fun u0 u0 p => wpAny_Constant_str (out_str p.I x _ _)
noncomputable def Fd.var (f : Fd) (i : Nat) (x : Str) : Bool := f.ns[i]? == some x && (f.scope.names.lookup x == some .local || f.scope.names.lookup x == some .cell || f.scope.names.lookup x == some .free) && !(x == ("__classdict__" : Str)) && !(x == ("__debug__" : Str))
theorem KOk.kd (o : KOk K) (x : Str) : K.env.kindOf x = K.fd.scope.names.lookup x := congrArg (fun s : Scope => s.names.lookup x) o.scope
theorem TE_var (h : K.fd.var i x = true) (hr : ρ[i]? = some (some d)) : TE K ρ (eval (.Name x pos) K.env) σ d σ := fun u0 u0 p => by
  unfold Fd.var at h
  rw [Bool.and_eq_true, Bool.and_eq_true, Bool.and_eq_true, Bool.or_eq_true, Bool.or_eq_true, Bool.not_eq_true', Bool.not_eq_true', beq_iff_eq, beq_iff_eq, beq_iff_eq, beq_iff_eq, ← p.o.kd, or_assoc] at h
  exact wpAny_Name (load_ok p.o p.V h.1.1.1 h.1.1.2 h.1.2 hr fun v r => out_here p.I r) h.2
theorem TE_bin {op l r} (hl : TE K ρ (eval l K.env) σ a σ₁) (hr : TE K ρ (eval r K.env) σ₁ b σ₂) (h : BinOk op a b d) : TE K ρ (eval (.BinOp l op r pos) K.env) σ d σ₂ := fun u0 u0 p =>
  wpAny_BinOp (hl.go p fun va w1 n1 => hr.go n1.p fun vb w2 n2 => wpAny_mono (h n2.p.I (n2.x.rep n1.r) n2.r) (fun v s' o => o.after (n1.x.trans n2.x)) fun u0 u0 e => e)
theorem TE_neg {e} {i : Int} (hx : TE K ρ (eval e K.env) σ (.int i) σ₁) : TE K ρ (eval (.UnaryOp .USub e pos) K.env) σ (.int (-i)) σ₁ := fun u0 u0 p =>
  wpAny_UnaryOp (hx.go p fun va w1 ⟨x, p1, _, e⟩ => by subst e; exact PySem.P.neg_int ((out_int p1.I _ _ _).after x))
theorem TE_cmp {op l r} {q : Bool} (hl : TE K ρ (eval l K.env) σ a σ₁) (hr : TE K ρ (eval r K.env) σ₁ b σ₂) (h : CmpOk σ₂ op a b q) (hm : behindInMarks op r = false) : TE K ρ (eval (.Compare l [op] [r] pos) K.env) σ (.bool q) σ₂ := fun u0 u0 p =>
  wpAny_Compare1 (hl.go p fun va w1 n1 => hr.go n1.p fun vb w2 n2 => wpAny_mono (h p.o.room.unit64 n2.p.I (n2.x.rep n1.r) n2.r) (fun u0 u0 ⟨t⟩ => (out_bool n2.p.I q t).after (n1.x.trans n2.x)) fun u0 u0 e => e) hm
theorem TB_cmp {op l r whole} {q : Bool} (hl : TE K ρ (eval l K.env) σ a σ₁) (hr : TE K ρ (eval r K.env) σ₁ b σ₂) (h : CmpOk σ₂ op a b q) (hm : behindInMarks op r = false) : TB K ρ (isTrue (.Compare l [op] [r] pos) K.env whole) σ q σ₂ := fun u0 u0 p =>
  wpAny_isTrue_Compare1 (hl.go p fun va w1 n1 => hr.go n1.p fun vb w2 n2 => wpAny_mono (h p.o.room.unit64 n2.p.I (n2.x.rep n1.r) n2.r) (fun u0 u0 ⟨t⟩ => wpAny_truthy_bool ((outB_toks n2.p.I q t).after (n1.x.trans n2.x))) fun u0 u0 e => e) hm
theorem TB_not {e whole} {q : Bool} (hx : TB K ρ (isTrue e K.env (eval e K.env)) σ q σ₁) : TB K ρ (isTrue (.UnaryOp .Not e pos) K.env whole) σ (!q) σ₁ := fun u0 u0 p =>
  wpAny_isTrue_Not (hx.go p fun w1 x1 p1 => ⟨w1, x1, p1.I⟩)
theorem TB_value {e : Expr} {q : Bool} (he : TE K ρ (eval e K.env) σ d σ₁) (h : TruthOk σ₁ d q) (hw : isTrue e K.env (eval e K.env) = (do let v ← eval e K.env; standAt e.pos; holding [v] (truthy v)) := by rfl) : TB K ρ (isTrue e K.env (eval e K.env)) σ q σ₁ := fun u0 u0 p =>
  wpAny_isTrue_value (he.go p fun v w1 n1 => wpAny_mono (h n1.p.I n1.r) (fun u0 u0 ⟨t⟩ => (outB_toks n1.p.I q t).after n1.x) fun u0 u0 e => e) hw
theorem TB_boolop {op values whole} {q : Bool} (h : TB K ρ (allTrue op values K.env) σ q σ₁) : TB K ρ (isTrue (.BoolOp op values pos) K.env whole) σ q σ₁ := fun u0 u0 p => wpAny_isTrue_BoolOp (h p)
theorem TB_and_nil : TB K ρ (allTrue .And [] K.env) σ true σ := fun w u0 p => wpAny_allTrue_And_nil ⟨w, .refl _ _, p.I⟩
theorem TB_or_nil : TB K ρ (allTrue .Or [] K.env) σ false σ := fun w u0 p => wpAny_allTrue_Or_nil ⟨w, .refl _ _, p.I⟩
theorem TB_and_t {l : List Expr} {e : Expr} {q : Bool} (hx : TB K ρ (isTrue e K.env (eval e K.env)) σ true σ₁) (hl : TB K ρ (allTrue .And l K.env) σ₁ q σ₂) : TB K ρ (allTrue .And (e :: l) K.env) σ q σ₂ := fun u0 u0 p =>
  wpAny_allTrue_And_cons (hx.go p fun w1 x1 p1 => wpAny_mono (hl p1) (fun u0 u0 o => o.after x1) fun u0 u0 e => e)
theorem TB_and_f {l : List Expr} {e : Expr} (hx : TB K ρ (isTrue e K.env (eval e K.env)) σ false σ₁) : TB K ρ (allTrue .And (e :: l) K.env) σ false σ₁ := fun u0 u0 p =>
  wpAny_allTrue_And_cons (hx.go p fun w1 x1 p1 => ⟨w1, x1, p1.I⟩)
theorem TB_or_f {l : List Expr} {e : Expr} {q : Bool} (hx : TB K ρ (isTrue e K.env (eval e K.env)) σ false σ₁) (hl : TB K ρ (allTrue .Or l K.env) σ₁ q σ₂) : TB K ρ (allTrue .Or (e :: l) K.env) σ q σ₂ := fun u0 u0 p =>
  wpAny_allTrue_Or_cons (hx.go p fun w1 x1 p1 => wpAny_mono (hl p1) (fun u0 u0 o => o.after x1) fun u0 u0 e => e)
theorem TB_or_t {l : List Expr} {e : Expr} (hx : TB K ρ (isTrue e K.env (eval e K.env)) σ true σ₁) : TB K ρ (allTrue .Or (e :: l) K.env) σ true σ₁ := fun u0 u0 p =>
  wpAny_allTrue_Or_cons (hx.go p fun w1 x1 p1 => ⟨w1, x1, p1.I⟩)
theorem TE_ite_t {t y z} (ht : TB K ρ (isTrue t K.env (eval t K.env)) σ true σ₁) (h : TE K ρ (eval y K.env) σ₁ d σ₂) : TE K ρ (eval (.IfExp t y z pos) K.env) σ d σ₂ := fun u0 u0 p =>
  wpAny_IfExp (ht.go p fun w1 x1 p1 => wpAny_mono (h p1) (fun u0 u0 o => o.after x1) fun u0 u0 e => e)
theorem TE_ite_f {t y z} (ht : TB K ρ (isTrue t K.env (eval t K.env)) σ false σ₁) (h : TE K ρ (eval z K.env) σ₁ d σ₂) : TE K ρ (eval (.IfExp t y z pos) K.env) σ d σ₂ := fun u0 u0 p =>
  wpAny_IfExp (ht.go p fun w1 x1 p1 => wpAny_mono (h p1) (fun u0 u0 o => o.after x1) fun u0 u0 e => e)
end
end Mine
end
section
open PySem PySem.W PyProof.Rows
namespace Mine
noncomputable def unstarred : List Expr → Bool
  | [] => true
  | .Starred _ _ :: _ => false
  | _ :: r => unstarred r
section
variable {K : Ctx} {ρ : Rho} {σ σ' σ₁ σ₂ σ₃ : St} {d a b c : D} {pos : Pos}
theorem TE_and_t {y z : Expr} {l : List Expr} (hx : TE K ρ (eval y K.env) σ (.bool true) σ₁) (hl : TE K ρ (eval (.BoolOp .And (z :: l) pos) K.env) σ₁ d σ₂) : TE K ρ (eval (.BoolOp .And (y :: z :: l) pos) K.env) σ d σ₂ := fun u0 u0 p =>
  BoolOp_and (hx.go p fun v w1 ⟨x1, p1, _⟩ => by subst v; exact wpAny_truthy_bool (wpAny_mono (hl p1) (fun u0 u0 o => o.after x1) fun u0 u0 e => e))
theorem TE_and1 {y : Expr} (h : TE K ρ (eval y K.env) σ d σ₁) : TE K ρ (eval (.BoolOp .And [y] pos) K.env) σ d σ₁ := fun u0 u0 p => BoolOp_one (h p)
theorem starEach_cons {env : Env} {e : Expr} {r : List Expr} (h : unstarred [e] = true) : starEach (e :: r) env = (false, eval e env) :: starEach r env := by
  cases e <;> first | rfl | cases h
theorem TL_nil : TL K ρ (spliced (backTo pos (starEach [] K.env))) σ [] σ := fun w u0 p => wpAny_items_nil ⟨w, .refl _ _, p.I, rfl⟩
theorem TL_cons {e : Expr} {r : List Expr} {l : List D} (hs : unstarred [e] = true) (he : TE K ρ (eval e K.env) σ d σ₁) (hr : TL K ρ (spliced (backTo pos (starEach r K.env))) σ₁ l σ₂) : TL K ρ (spliced (backTo pos (starEach (e :: r) K.env))) σ (d :: l) σ₂ := fun u0 u0 p =>
  wpAny_items_cons (he.go p fun v w1 n1 => hr.go n1.p fun vs w2 x2 p2 r2 => ⟨w2, n1.x.trans x2, p2.I, v, vs, x2.rep n1.r, r2⟩) (starEach_cons hs)
theorem TE_tuple {elts : List Expr} {kd} {l : List D} (hl : TL K ρ (spliced (backTo pos (starEach elts K.env))) σ l σ₁) (hz : l.length ≤ 1000000) : TE K ρ (eval (.Tuple elts kd pos) K.env) σ (.tup l) σ₁ := fun u0 u0 p =>
  wpAny_Tuple (hl.go p fun vs w1 x1 p1 r1 => ⟨by rw [r1.length, sizeLine_is]; exact Nat.le_trans hz (by decide), (out_tup p1.I w1.s.toks r1).after x1⟩)
theorem TE_list {elts : List Expr} {l : List D} (hl : TL K ρ (spliced (backTo pos (starEach elts K.env))) σ l σ₁) (hz : l.length ≤ 1000000) : TE K ρ (eval (.List elts pos) K.env) σ (.lst l) σ₁ := fun u0 u0 p =>
  wpAny_List (hl.go p fun vs w1 x1 p1 r1 => ⟨by rw [r1.length, sizeLine_is]; exact Nat.le_trans hz (by decide), (out_list p1.I w1.s.toks r1).after x1⟩)
theorem wp_subscript {C : Cx} {A : Around} {env : Env} {value slice : Expr} {s : Shared} {Q : Value → Shared → Prop} {E : Value → Shared → Prop}
    (h : wpAny C.M A (eval value env) (fun o s₁ => wpAny C.M A (eval slice env) (fun i s₂ => ItemOn C.M A E o i Q s₂) E s₁) E s) : wpAny C.M A (eval (.Subscript value slice pos) env) Q E s := by
  rw [eval_Subscript]
  refine wpAny_bind (wpAny_mono h (fun o s₁ h₁ => wpAny_bind (wpAny_holding (wpAny_mono h₁ (fun i s₂ h₂ => wpAny_bind (wpAny_standAt ?_)) fun u0 u0 x => x))) fun u0 u0 x => x)
  obtain ⟨T, id, hl, hT, hg⟩ := h₂
  refine wpAny_bind ?_
  unfold getitemInPython
  refine wpAny_bind (wpAny_specialOf hT hl (wpAny_pure (wpAny_bind ?_)))
  have hg' : wpAny C.M A (getItem o i) (fun r s₃ => wpAny C.M A (letTemporaryGo value o r >>= fun u0 => pure r) Q E s₃) E s₂ := wpAny_mono hg (fun r s₃ h₃ => wpAny_bind (wpAny_letTemporaryGo (wpAny_pure h₃))) fun u0 u0 x => x
  unfold subscripted
  split <;> first | exact wpAny_operateT hg' | exact absurd ‹false = true› (by decide)
theorem itemOn_mono {M : Model} {A : Around} {E : Value → Shared → Prop} {o i : Value} {Q Q' : Value → Shared → Prop} {s : Shared} (h : ItemOn M A E o i Q s) (hq : ∀ v s, Q v s → Q' v s) : ItemOn M A E o i Q' s :=
  let ⟨T, id, a, b, c⟩ := h; ⟨T, id, a, b, wpAny_mono c hq fun u0 u0 e => e⟩
theorem TE_idx {value slice : Expr} (hv : TE K ρ (eval value K.env) σ a σ₁) (hi : TE K ρ (eval slice K.env) σ₁ b σ₂) (h : IdxOk σ₂ a b d) : TE K ρ (eval (.Subscript value slice pos) K.env) σ d σ₂ := fun u0 u0 p =>
  wp_subscript (hv.go p fun va w1 n1 => hi.go n1.p fun vb w2 n2 => itemOn_mono (h n2.p.I (n2.x.rep n1.r) n2.r) fun v s' ⟨t, r⟩ => (out_rep n2.p.I r t).after (n1.x.trans n2.x))
inductive Part : D → Option Int → Prop
  | none : Part .none none
  | int (i : Int) : Part (.int i) (some i)
theorem Part.at {x : D} {i : Option Int} {C : Cx} {w : W} {v : Value} : Part x i → Rep C w x v → IsPart v i
  | .none, e => by cases e; exact .none
  | .int i, ⟨t, e⟩ => by subst e; exact .int i t
theorem TE_part_none : TE K ρ (evalPart none K.env) σ .none σ := fun u0 u0 p => by rw [evalPart_none]; exact wpAny_pure (out_here p.I rfl)
theorem TE_part_some {e : Expr} (h : TE K ρ (eval e K.env) σ d σ₁) : TE K ρ (evalPart (some e) K.env) σ d σ₁ := fun u0 u0 p => by rw [evalPart_some]; exact h p
noncomputable def SlOk (σ : St) (o : D) (i j k : Option Int) (d : D) : Prop := ∀ ⦃C : Cx⦄ ⦃A : Around⦄ ⦃w : W⦄ ⦃vo vx vy vz : Value⦄ ⦃E : Value → Shared → Prop⦄ ⦃sa : Addr⦄, Inv C σ w → Rep C w o vo → IsPart vx i → IsPart vy j → IsPart vz k →
  w.s.heap.get? sa = some { cls := .type "slice", data := .fields #[vx, vy, vz] } → ItemOn C.M A E vo (.ref sa) (Out C w σ d) w.s
theorem TE_sl {value : Expr} {lo up st : Option Expr} {p' : Pos} {i j k : Option Int} (ho : TE K ρ (eval value K.env) σ d σ₁) (hx : TE K ρ (evalPart lo K.env) σ₁ a σ₂) (hy : TE K ρ (evalPart up K.env) σ₂ b σ₃) (hz : TE K ρ (evalPart st K.env) σ₃ c σ')
    (pi : Part a i) (pj : Part b j) (pk : Part c k) {r : D} (h : SlOk σ' d i j k r) : TE K ρ (eval (.Subscript value (.Slice lo up st p') pos) K.env) σ r σ' := fun u0 u0 p =>
  wp_subscript (ho.go p fun vo w0 n0 => wpAny_Slice (hx.go n0.p fun vx w1 n1 => hy.go n1.p fun vy w2 n2 => hz.go n2.p fun vz w3 n3 =>
    have hk : ∀ b o, w3.s.heap.get? b = some o → (w3.s.heap.push { cls := .type "slice", data := .fields #[vx, vy, vz] }).get? b = some o := fun u0 u0 e => Heap.get?_push_of_some _ e
    have x4 : Step NoF w3 (w3.put [] .fz (w3.s.heap.push { cls := .type "slice", data := .fields #[vx, vy, vz] }) w3.s.toks []) := .grow hk
    have x := ((n1.x.trans n2.x).trans n3.x).trans x4
    itemOn_mono (h (n3.p.I.grow hk) (x.rep n0.r) (pi.at n1.r) (pj.at n2.r) (pk.at n3.r) (Heap.get?_push_size _ rfl)) fun u0 u0 o => o.after (n0.x.trans x)))
theorem sl_lst {l : List D} {i j k : Option Int} (q : IsL σ a l) (h0 : k ≠ some 0) (hz : l.length ≤ 16777216) : SlOk σ a i j k (.lst ((sliceRange (sliceBounds i j k l.length).1 (sliceBounds i j k l.length).2.1 (sliceBounds i j k l.length).2.2).filterMap (l[·]?))) := fun u0 u0 u0 u0 u0 u0 u0 u0 u0 I ro px py pz hs => by
  obtain ⟨u1, p, vs, n, z, r⟩ := q.at I ro
  refine ⟨_, _, F.slot_list_getitem.lookup, ⟨_, z.is, rfl⟩, wpAny_getItem_list_slice (items := vs.toArray) ⟨_, z.is, rfl, n, rfl⟩ ⟨_, hs, rfl, rfl⟩ px py pz h0 ?_ (by rw [sizeLine_is, List.size_toArray, r.length]; exact hz)⟩
  rw [show slicePick vs.toArray i j k = ((sliceRange (sliceBounds i j k vs.length).1 (sliceBounds i j k vs.length).2.1 (sliceBounds i j k vs.length).2.2).filterMap (vs[·]?)).toArray by unfold slicePick; simp, r.length]
  exact out_list I _ (r.pick _)
end
end Mine
end
section
open PySem PySem.W PyProof.Rows
namespace Mine
theorem Heap.fresh0 (h : Heap) : h.get? h.objs.size = none := by
  cases q : h.get? h.objs.size with
  | none => rfl
  | some o => exact absurd (Heap.lt_size q) (Nat.lt_irrefl _)
inductive AsgL (K : Ctx) : List Expr → List D → Rho → Rho → Prop
  | nil (ρ : Rho) : AsgL K [] [] ρ ρ
  | cons {ρ ρ' : Rho} {i : Nat} {x : Str} {pos : Pos} {d : D} {es : List Expr} {ds : List D} (hi : K.ns[i]? = some x) (hm : K.may ρ i = true) (r : AsgL K es ds (ρ.set i (some d)) ρ') : AsgL K (.Name x pos :: es) (d :: ds) ρ ρ'
inductive Asg (K : Ctx) : Expr → D → Rho → Rho → Prop
  | v {ρ : Rho} {i : Nat} {x : Str} {pos : Pos} {d : D} (hi : K.ns[i]? = some x) (hm : K.may ρ i = true) : Asg K (.Name x pos) d ρ (ρ.set i (some d))
  | t {ρ ρ' : Rho} {elts : List Expr} {kd : Nat} {pos : Pos} {ds : List D} (r : AsgL K elts ds ρ ρ') : Asg K (.Tuple elts kd pos) (.tup ds) ρ ρ'
section
variable {K : Ctx} {ρ ρ' : Rho} {σ : St} {w w' : W} {E : Value → Shared → Prop} {d : D} {v : Value}
theorem OutN.after (x : Step K.own1 w w') {s : Shared} : OutN K K.own1 w' σ ρ s → OutN K K.own1 w σ ρ s
  | ⟨w₂, a, b, c⟩ => ⟨w₂, x.trans a, b, c⟩
theorem assignEach_cons {x : Str} {pos : Pos} {es : List Expr} {env : Env} : assignEach (.Name x pos :: es) env = (false, assign (.Name x pos) env) :: assignEach es env := by rfl
theorem assignEach_names {es : List Expr} {ds : List D} (h : AsgL K es ds ρ ρ') : (assignEach es K.env).length = ds.length ∧ (assignEach es K.env).findIdx? (·.1) = none := by
  induction h with
  | nil => exact ⟨rfl, rfl⟩
  | cons _ _ _ ih => rw [assignEach_cons]; exact ⟨congrArg (· + 1) ih.1, by rw [List.findIdx?_cons, ih.2]; rfl⟩
theorem assignGo_ok {es : List Expr} {ds : List D} (h : AsgL K es ds ρ ρ') : ∀ {vs : List Value} {w : W}, Ok K ρ σ w → RepL K.C w ds vs → wpAny K.C.M K.A (assignInOrder ((assignEach es K.env).map (·.2)) vs) (fun u0 => OutN K K.own1 w σ ρ') E w.s := by
  induction h with
  | nil => exact fun {_ w} p _ => wpAny_pure ⟨w, .refl _ _, p.I, p.V⟩
  | cons hi hm _ ih =>
    intro vs w p ⟨v, vs, r1, r2⟩
    rw [assignEach_cons]
    exact wpAny_bind (wpAny_holding (wpAny_assign_Name (wpAny_mono (store_ok p.o p.I p.V hi hm r1) (fun u0 u0 ⟨w1, x1, I1, V1⟩ => wpAny_mono (ih ⟨p.o, I1, V1⟩ (x1.repL r2)) (fun u0 u0 o => o.after x1) fun u0 u0 e => e) fun u0 u0 e => e)))
theorem assign_ok {e : Expr} (ht : Asg K e d ρ ρ') (p : Ok K ρ σ w) (r : Rep K.C w d v) : wpAny K.C.M K.A (assign e K.env v) (fun u0 => OutN K K.own1 w σ ρ') E w.s := by
  cases ht with
  | v hi hm => exact wpAny_assign_Name (store_ok p.o p.I p.V hi hm r)
  | t h =>
    obtain ⟨a, vs, n, z, r⟩ := r
    obtain ⟨h1, h2⟩ := assignEach_names h
    refine assign_Tuple_tuple (items := vs.toArray) p.o.room.handled ⟨_, z.is, rfl, n, rfl⟩ (by rw [h1, List.size_toArray, r.length]) h2 fun h' hx => ?_
    have hk : ∀ b o, w.s.heap.get? b = some o → h'.get? b = some o := fun b o e => hx b o (fun q => by rw [q, Heap.fresh0] at e; cases e) e
    have x : Step NoF w (w.put [] .fz h' w.s.toks []) := .grow hk
    exact wpAny_mono (assignGo_ok h (w := w.put [] .fz h' w.s.toks []) (p.next x (p.I.grow hk)) (x.repL r)) (fun u0 u0 o => o.after x.ofN) fun u0 u0 e => e
end
end Mine
end
section
open PySem PySem.W PyProof.Rows
namespace Mine
inductive Fl where
  | next | brk | cont | ret (d : D)
inductive FlOk (C : Cx) (w : W) : Fl → Flow → Prop
  | next : FlOk C w .next .next
  | brk : FlOk C w .brk .brk
  | cont : FlOk C w .cont .cont
  | ret {d : D} {v : Value} (r : Rep C w d v) : FlOk C w (.ret d) (.ret v)
inductive OutS (K : Ctx) (w : W) (σ : St) (fl : Fl) (ρ : Rho) (f : Flow) : Shared → Prop
  | mk (w' : W) (x : Step K.own1 w w') (I : Inv K.C σ w') (V : EnvOk K w' ρ) (h : FlOk K.C w' fl f) : OutS K w σ fl ρ f w'.s
noncomputable def TS (K : Ctx) (ρ : Rho) (t : Sem Flow) (σ : St) (fl : Fl) (ρ' : Rho) (σ' : St) : Prop := ∀ ⦃w : W⦄ ⦃E : Value → Shared → Prop⦄, Ok K ρ σ w → wpAny K.C.M K.A t (OutS K w σ' fl ρ') E w.s
section
variable {K : Ctx} {ρ ρ' ρ₁ : Rho} {σ σ₁ σ' : St} {w w' : W} {d : D} {fl : Fl} {pos : Pos}
theorem OutS.after (x : Step K.own1 w w') {f : Flow} {s : Shared} : OutS K w' σ fl ρ f s → OutS K w σ fl ρ f s
  | ⟨w₂, a, b, c, h⟩ => ⟨w₂, x.trans a, b, c, h⟩
theorem TS_nil : TS K ρ (execs [] K.env) σ .next ρ σ := fun w u0 p => wpAny_execs_nil ⟨w, .refl _ _, p.I, p.V, .next⟩
theorem TS_cons {st : Stmt} {rest : List Stmt} (h1 : TS K ρ (exec st K.env) σ .next ρ₁ σ₁) (h2 : TS K ρ₁ (execs rest K.env) σ₁ fl ρ' σ') : TS K ρ (execs (st :: rest) K.env) σ fl ρ' σ' := fun u0 u0 p =>
  wpAny_execs_cons (wpAny_mono (h1 p) (fun u0 u0 ⟨_, x1, I1, V1, h⟩ => by cases h; exact wpAny_mono (h2 ⟨p.o, I1, V1⟩) (fun u0 u0 o => o.after x1) fun u0 u0 e => e) fun u0 u0 e => e)
theorem TS_stop {st : Stmt} {rest : List Stmt} (h1 : TS K ρ (exec st K.env) σ fl ρ' σ') (hf : fl ≠ .next) : TS K ρ (execs (st :: rest) K.env) σ fl ρ' σ' := fun u0 u0 p =>
  wpAny_execs_cons (wpAny_mono (h1 p) (fun u0 u0 ⟨w1, x1, I1, V1, h⟩ => by
    cases h with
    | next => exact absurd rfl hf
    | _ => exact ⟨w1, x1, I1, V1, by first | exact .brk | exact .cont | exact .ret ‹_›⟩) fun u0 u0 e => e)
theorem TS_if_t {test : Expr} {body els : List Stmt} (ht : TB K ρ (isTrue test K.env (eval test K.env)) σ true σ₁) (h : TS K ρ (execs body K.env) σ₁ fl ρ' σ') : TS K ρ (exec (.If test body els pos) K.env) σ fl ρ' σ' := fun u0 u0 p =>
  wpAny_If (ht.go p fun w1 x1 p1 => wpAny_mono (h p1) (fun u0 u0 o => o.after x1.ofN) fun u0 u0 e => e)
theorem TS_if_f {test : Expr} {body els : List Stmt} (ht : TB K ρ (isTrue test K.env (eval test K.env)) σ false σ₁) (h : TS K ρ (execs els K.env) σ₁ fl ρ' σ') : TS K ρ (exec (.If test body els pos) K.env) σ fl ρ' σ' := fun u0 u0 p =>
  wpAny_If (ht.go p fun w1 x1 p1 => wpAny_mono (h p1) (fun u0 u0 o => o.after x1.ofN) fun u0 u0 e => e)
theorem TS_ret {e : Expr} (h : TE K ρ (eval e K.env) σ d σ') : TS K ρ (exec (.Return (some e) pos) K.env) σ (.ret d) ρ σ' := fun u0 u0 p =>
  wpAny_Return_some (h.go p fun v w1 n => ⟨w1, n.x.ofN, n.p.I, n.p.V, .ret n.r⟩)
theorem TS_brk : TS K ρ (exec (.Break pos) K.env) σ .brk ρ σ := fun w u0 p => wpAny_Break ⟨w, .refl _ _, p.I, p.V, .brk⟩
theorem TS_cont : TS K ρ (exec (.Continue pos) K.env) σ .cont ρ σ := fun w u0 p => wpAny_Continue ⟨w, .refl _ _, p.I, p.V, .cont⟩
theorem TS_expr {e : Expr} (h : TE K ρ (eval e K.env) σ d σ') (hi : interactive K.env = false) (hs : swapsWith e none pos.line K.env = pure false) : TS K ρ (exec (.Expr e pos) K.env) σ .next ρ σ' := fun u0 u0 p =>
  wpAny_Expr_any (h.go p fun v w1 n => ⟨w1, n.x.ofN, n.p.I, n.p.V, .next⟩) hi hs
theorem OutN.next (x : Step NoF w w') {s : Shared} : OutN K K.own1 w' σ ρ s → OutS K w σ .next ρ .next s
  | ⟨w₂, a, b, c⟩ => ⟨w₂, x.ofN.trans a, b, c, .next⟩
theorem TS_asg {i : Nat} {x : Str} {q : Pos} {e : Expr} (h : TE K ρ (eval e K.env) σ d σ') (hi : K.ns[i]? = some x) (hm : K.may ρ i = true) (hs : swapsWith e (some (.Name x q)) pos.line K.env = pure false) :
    TS K ρ (exec (.Assign [.Name x q] e pos) K.env) σ .next (ρ.set i (some d)) σ' := fun u0 u0 p =>
  wpAny_Assign_Name (h.go p fun v w1 n => wpAny_mono (store_ok p.o n.p.I n.p.V hi hm n.r) (fun u0 u0 o => o.next n.x) fun u0 u0 e => e) hs
theorem TS_asgT {elts : List Expr} {kd : Nat} {q : Pos} {e : Expr} (h : TE K ρ (eval e K.env) σ d σ') (ht : Asg K (.Tuple elts kd q) d ρ ρ') (hs : swapsWithSole [.Tuple elts kd q] e pos.line K.env = pure false) (hw : swappedStores [.Tuple elts kd q] e K.env = pure none) :
    TS K ρ (exec (.Assign [.Tuple elts kd q] e pos) K.env) σ .next ρ' σ' := fun u0 u0 p =>
  Assign_Tuple (h.go p fun v w1 n => wpAny_mono (assign_ok ht n.p n.r) (fun u0 u0 o => o.next n.x) fun u0 u0 e => e) hs hw
end
end Mine
end
section
open PySem PySem.W PyProof.Rows
namespace Mine
inductive OutI (C : Cx) (k : Addr) {ι : Type} (J : ι → W → Prop) (w : W) (σ : St) (i : ι) (d : D) (v : Value) : Shared → Prop
  | mk (w' : W) (x : Step (· = k) w w') (I : Inv C σ w') (j : J i w') (r : Rep C w' d v) : OutI C k J w σ i d v w'.s
inductive OutD (C : Cx) (k : Addr) (w : W) (σ : St) : Shared → Prop
  | mk (w' : W) (h : Heap) (t : Tok) (x : Step (· = k) w w') (I : Inv C σ w') (hk : ∀ b o, (∀ j ∈ [k], w'.tag b ≠ .mu j) → w'.s.heap.get? b = some o → h.get? b = some o) : OutD C k w σ { w'.s with heap := h, toks := t }
structure ItrL (C : Cx) (A : Around) (target : Expr) (it : Value) (k : Addr) {ι : Type} (J : ι → W → Prop) (N : ι → St → Option D → ι → St → Prop) : Prop where
  stable : ∀ {i w w' F}, J i w → Step F w w' → ¬ F k → J i w'
  item : ∀ {i σ w d i' σ' E}, Inv C σ w → J i w → N i σ (some d) i' σ' → wpAny C.M A (pyNext it) (fun r s1 => ∃ v, r = some v ∧ wpAny C.M A (letOwnedTupleGo target it v) (fun u0 => OutI C k J w σ' i' d v) E s1) E w.s
  done : ∀ {i σ w i' σ' E}, Inv C σ w → J i w → N i σ none i' σ' → wpAny C.M A (pyNext it) (fun r s1 => r = none ∧ OutD C k w σ' s1) E w.s
structure Itr (C : Cx) (A : Around) (target : Expr) (it : Value) (k : Addr) {ι : Type} (J : ι → W → Prop) (N : ι → St → Option D → ι → St → Prop) : Prop extends ItrL C A target it k J N where
  self : ∀ {i w Q E}, J i w → Q it w.s → wpAny C.M A (pyIter it) Q E w.s
inductive Run (K : Ctx) {ι : Type} (N : ι → St → Option D → ι → St → Prop) (target : Expr) (body els : List Stmt) : Nat → ι → Rho → St → Fl → Rho → St → Prop
  | done {n : Nat} {i i' : ι} {ρ ρ' : Rho} {σ σ₁ σ' : St} {fl : Fl} (h : N i σ none i' σ₁) (e : TS K ρ (execs els K.env) σ₁ fl ρ' σ') : Run K N target body els n i ρ σ fl ρ' σ'
  | next {n : Nat} {i i' : ι} {d : D} {ρ ρ₁ ρ₂ ρ' : Rho} {σ σ₁ σ₂ σ' : St} {fl : Fl} (h : N i σ (some d) i' σ₁) (a : Asg K target d ρ ρ₁) (b : TS K ρ₁ (execs body K.env) σ₁ .next ρ₂ σ₂) (r : Run K N target body els n i' ρ₂ σ₂ fl ρ' σ') : Run K N target body els (n + 1) i ρ σ fl ρ' σ'
  | cont {n : Nat} {i i' : ι} {d : D} {ρ ρ₁ ρ₂ ρ' : Rho} {σ σ₁ σ₂ σ' : St} {fl : Fl} (h : N i σ (some d) i' σ₁) (a : Asg K target d ρ ρ₁) (b : TS K ρ₁ (execs body K.env) σ₁ .cont ρ₂ σ₂) (r : Run K N target body els n i' ρ₂ σ₂ fl ρ' σ') : Run K N target body els (n + 1) i ρ σ fl ρ' σ'
  | brk {n : Nat} {i i' : ι} {d : D} {ρ ρ₁ ρ' : Rho} {σ σ₁ σ' : St} (h : N i σ (some d) i' σ₁) (a : Asg K target d ρ ρ₁) (b : TS K ρ₁ (execs body K.env) σ₁ .brk ρ' σ') : Run K N target body els n i ρ σ .next ρ' σ'
  | ret {n : Nat} {i i' : ι} {d e : D} {ρ ρ₁ ρ' : Rho} {σ σ₁ σ' : St} (h : N i σ (some d) i' σ₁) (a : Asg K target d ρ ρ₁) (b : TS K ρ₁ (execs body K.env) σ₁ (.ret e) ρ' σ') : Run K N target body els n i ρ σ (.ret e) ρ' σ'
theorem codeAny_forLoop_go {prog : Program} {w : World} {A : Around} {s : Shared} {R : Result → Shared → Prop} {target it body orelse env} (I : Nat → Shared → Prop)
    (turn : ∀ n s E, I n s → wpAny (model prog w) A (pyNext it) (fun r s₁ => match r with
      | none => wpAny (model prog w) A (execs orelse env) (fun f s₃ => R (.ok f) s₃) E s₁
      | some v => wpAny (model prog w) A (letOwnedTupleGo target it v) (fun u0 s₁ => wpAny (model prog w) A (assign target env v) (fun u0 s₂ => wpAny (model prog w) A (execs body env) (fun f s₃ => match f with
          | .next | .cont => ∃ m, m < n ∧ I m s₃
          | .brk => R (.ok .next) s₃
          | .ret v => R (.ok (.ret v)) s₃) E s₂) E s₁) E s₁) E s)
    (n : Nat) (h : I n s) : codeAny (model prog w) A (.forLoop target it body orelse env) R s := by
  refine codeAny_loop' rfl I (fun n s hI => ?_) n h
  show wpAny _ _ ((forTurn target it body orelse env).onRaise (fun x => do noteFrame x env; theTreesLotGoes x)) _ _ s
  refine wpAny_noted ?_
  simp only [forTurn]
  refine wpAny_bind (wpAny_standAt (wpAny_bind (wpAny_onRaise (wpAny_mono (turn n s (notedBy (model prog w) A env fun e s' => R (.error e) s') hI) (fun r s₁ h₁ => ?_) fun u0 u0 h' => wpAny_standAt h'))))
  cases r with
  | none => exact wpAny_pure (.inr ⟨rfl, codeAny_block h₁⟩)
  | some v =>
    refine wpAny_bind (wpAny_mono h₁ (fun u0 s₁ h₁ => wpAny_bind (wpAny_mono h₁ (fun u0 s₂ h₂ => wpAny_bind (wpAny_mono h₂ (fun f s₃ h₃ => ?_) fun u0 u0 h' => h')) fun u0 u0 h' => h')) fun u0 u0 h' => h')
    cases f with
    | next => exact wpAny_pure (.inl ⟨rfl, h₃⟩)
    | cont => exact wpAny_pure (.inl ⟨rfl, h₃⟩)
    | brk => exact wpAny_pure h₃
    | ret v => exact wpAny_pure h₃
section
variable {K : Ctx} {ι : Type} {N : ι → St → Option D → ι → St → Prop} {J : ι → W → Prop} {target : Expr} {it : Value} {k : Addr} {body els : List Stmt} {fl : Fl} {ρ ρ' ρ₀ : Rho} {σ σ' σ₀ : St} {w w₀ : W} {i : ι} {n : Nat}
inductive Mid (K : Ctx) (k : Addr) (J : ι → W → Prop) (w₀ : W) (R : ι → Rho → St → Prop) : Shared → Prop
  | mk (w : W) (i : ι) (ρ : Rho) (σ : St) (x : Step (fun b => K.own1 b ∨ b = k) w₀ w) (p : Ok K ρ σ w) (j : J i w) (r : R i ρ σ) : Mid K k J w₀ R w.s
theorem own_l {k : Addr} {w w' : W} (x : Step K.own1 w w') : Step (fun b => K.own1 b ∨ b = k) w w' := x.weaken fun u0 => .inl
theorem run_loop (X : ItrL K.C K.A target it k J N) (p₀ : Ok K ρ₀ σ₀ w₀) (hn : NoT w₀ k) (x : Step NoF w₀ w) (I : Inv K.C σ w) (j : J i w) (r : Run K N target body els n i ρ₀ σ fl ρ' σ') :
    codeAny K.C.M K.A (.forLoop target it body els K.env) (fun r s' => ∃ f, r = .ok f ∧ OutS K w₀ σ' fl ρ' f s') w.s := by
  have hid : ∀ j ∈ K.ids, ¬ j = k := fun j m e => by obtain ⟨u1, z⟩ := p₀.V.ids j m; subst e; exact hn _ z.tag
  have hL : ¬ K.own1 k := fun e => hid _ p₀.o.id e.symm
  refine codeAny_forLoop_go (fun n => Mid K k J w₀ fun i ρ σ => Run K N target body els n i ρ σ fl ρ' σ') (fun n s E M => ?_) n ⟨w, i, ρ₀, σ, x.ofN, ⟨p₀.o, I, p₀.V.stepN p₀.o x⟩, j, r⟩
  obtain ⟨w, i, ρ, σ, x, p, j, r⟩ := M
  have body_ok : ∀ {i' d σ₁ ρ₁ fl₁ ρ₂ σ₂} {Q : Flow → Shared → Prop}, N i σ (some d) i' σ₁ → Asg K target d ρ ρ₁ → TS K ρ₁ (execs body K.env) σ₁ fl₁ ρ₂ σ₂ →
      (∀ f w', Step (fun b => K.own1 b ∨ b = k) w₀ w' → Ok K ρ₂ σ₂ w' → J i' w' → FlOk K.C w' fl₁ f → Q f w'.s) →
      wpAny K.C.M K.A (pyNext it) (fun r s₁ => match r with
        | none => wpAny K.C.M K.A (execs els K.env) (fun f s₃ => ∃ f', (.ok f : Result) = .ok f' ∧ OutS K w₀ σ' fl ρ' f' s₃) E s₁
        | some v => wpAny K.C.M K.A (letOwnedTupleGo target it v) (fun u0 s₁ => wpAny K.C.M K.A (assign target K.env v) (fun u0 s₂ => wpAny K.C.M K.A (execs body K.env) Q E s₂) E s₁) E s₁) E w.s := fun h a b q =>
    wpAny_mono (X.item p.I j h) (fun u0 u0 ⟨v, e, g⟩ => by
      subst e
      exact wpAny_mono g (fun u0 u0 ⟨w1, x1, I1, j1, r1⟩ =>
        have V1 := p.V.step p.o x1 hid
        wpAny_mono (assign_ok a ⟨p.o, I1, V1⟩ r1) (fun u0 u0 ⟨w2, x2, I2, V2⟩ => wpAny_mono (b ⟨p.o, I2, V2⟩) (fun f u0 ⟨w3, x3, I3, V3, hf⟩ =>
          q f w3 (x.trans ((x1.weaken fun u0 => .inr).trans (own_l (x2.trans x3)))) ⟨p.o, I3, V3⟩ (X.stable j1 (x2.trans x3) hL) hf) fun u0 u0 e => e) fun u0 u0 e => e) fun u0 u0 e => e) fun u0 u0 e => e
  have tight : ∀ {w'}, Step (fun b => K.own1 b ∨ b = k) w₀ w' → Step K.own1 w₀ w' := fun x => x.tight fun b q => q.imp id fun (e : b = k) => e ▸ hn
  cases r with
  | done h e =>
    refine wpAny_mono (X.done p.I j h) (fun u0 u0 ⟨e1, o⟩ => ?_) fun u0 u0 e => e
    subst e1
    obtain ⟨w1, h, t, x1, I1, hk⟩ := o
    have x2 : Step K.own1 w₀ (w1.fin [k] h t) := (x.trans (x1.weaken fun u0 => .inr)).fin hk (fun b q => q.imp id fun e => List.mem_singleton.mpr e) fun b m => List.mem_singleton.mp m ▸ hn
    have x3 : Step (· = k) w (w1.fin [k] h t) := ⟨⟨fun b o z => fin_keep (t := .fz) hk (fun u0 u0 e => nomatch e) _ _ (x1.keep b o z), x1.main⟩, fun b f => fun a o z => fin_keep hk (fun i m e => by cases e; exact f (List.mem_singleton.mp m)) _ _ (x1.mu b f a o z), let ⟨_, _, e⟩ := x1.rest; ⟨h, t, by show ({ w1.s with heap := h, toks := t } : Shared) = _; rw [e]⟩⟩
    exact wpAny_mono (e (w := w1.fin [k] h t) ⟨p.o, I1.fin hk, p.V.step p.o x3 hid⟩) (fun f u0 o => ⟨f, rfl, o.after x2⟩) fun u0 u0 e => e
  | next h a b r => exact body_ok h a b fun f w' x' p' j' hf => by cases hf; exact ⟨_, Nat.lt_succ_self _, w', _, _, _, x', p', j', r⟩
  | cont h a b r => exact body_ok h a b fun f w' x' p' j' hf => by cases hf; exact ⟨_, Nat.lt_succ_self _, w', _, _, _, x', p', j', r⟩
  | brk h a b => exact body_ok h a b fun f w' x' p' j' hf => by cases hf; exact ⟨_, rfl, w', tight x', p'.I, p'.V, .next⟩
  | ret h a b => exact body_ok h a b fun f w' x' p' j' hf => by cases hf; exact ⟨_, rfl, w', tight x', p'.I, p'.V, .ret ‹_›⟩
end
end Mine
end
section
open PySem PySem.W PyProof.Rows
namespace Mine
inductive Nl : List D → St → Option D → List D → St → Prop
  | some (d : D) (l : List D) (σ : St) : Nl (d :: l) σ (some d) l σ
  | none (σ : St) : Nl [] σ none [] σ
inductive JW (ds : List D) (fp wr : List Addr) (I : Addr) (S : Nat → Heap → Prop) (aux : W → Prop) (l : List D) (w : W) : Prop
  | mk (i : Nat) (hi : i ≤ ds.length) (e : l = ds.drop i) (st : S i w.s.heap) (a : aux w) (f : ∀ b ∈ fp, b ∈ wr ∨ ∃ o, At w .fz b o) (m : ∀ b ∈ wr, ∃ o, At w (.mu I) b o)
section
variable {C : Cx} {A : Around} {target : Expr} {I : Addr} {fp wr : List Addr} {n : Nat} {P : Nat → Value → Prop} {S : Nat → Heap → Prop} {ds : List D} {w w' : W} {σ : St} {h : Heap} {t : Tok}
theorem priv_chg (hk : ∀ b o, w.tag b ≠ .mu I → w.s.heap.get? b = some o → h.get? b = some o) : Chg (· = .mu I) w (w.put [] .fz h t []) := .put fun u0 n b o z => ⟨List.not_mem_nil, hk b o (fun e => n (z.tag.symm.trans e)) z.is⟩
theorem Step.priv (hk : ∀ b o, w.tag b ≠ .mu I → w.s.heap.get? b = some o → h.get? b = some o) : Step (· = I) w (w.put [] .fz h t []) := (priv_chg hk).step (fun e => nomatch e) fun u0 e => by cases e; rfl
theorem Inv.priv (i : Inv C σ w) (hk : ∀ b o, w.tag b ≠ .mu I → w.s.heap.get? b = some o → h.get? b = some o) (ha : ∀ b, w.tag b = .mu I → Alive w b → ∃ o, h.get? b = some o) : Inv C σ (w.put [] .fz h t []) :=
  i.put (priv_chg hk) (fun e => nomatch e) (fun u0 e => nomatch e) (fun u0 m => nomatch m) (fun b a => by
    by_cases q : w.tag b = .mu I
    · exact ha b q a
    · obtain ⟨o, e⟩ := a; exact ⟨o, hk b o q e⟩) (fun u0 m => nomatch m) (fun u0 e => nomatch e) fun u0 e => nomatch e
theorem itr_walks (W' : Walks C.prog C.w A I fp wr n P S) (hn : ds.length = n)
    (go : ∀ i (s : Shared) v (Q : Unit → Shared → Prop) E, S i s.heap → Q () s → wpAny C.M A (letOwnedTupleGo target (.ref I) v) Q E s)
    (live : ∀ i h, S i h → ∀ b ∈ wr, ∃ o, h.get? b = some o) {aux : W → Prop} (haux : ∀ w w', Mono w w' → aux w → aux w')
    (hP : ∀ i d w v, ds[i]? = some d → aux w → P i v → Rep C w d v) : Itr C A target (.ref I) I (JW ds fp wr I S aux) Nl where
  self := fun ⟨j, _, _, st, _, _, _⟩ q => W'.self j _ _ _ st q
  stable := fun ⟨i, hi, e, st, a, f, m⟩ x nf =>
    ⟨i, hi, e, W'.frame i _ _ st fun b hb o e => (f b hb).elim (fun q => let ⟨_, z⟩ := m b q; let y := x.mu I nf _ _ z; by cases z.is.symm.trans e; exact y.is) fun ⟨_, z⟩ => by cases z.is.symm.trans e; exact (x.keep _ _ z).is, haux _ _ x.toMono a,
      fun b hb => (f b hb).imp id fun ⟨o, z⟩ => ⟨o, x.keep _ _ z⟩, fun b hb => let ⟨o, z⟩ := m b hb; ⟨o, x.mu I nf _ _ z⟩⟩
  item := by
    rintro l σ w d l' σ' E i ⟨j, hj, e, st, a, f, m⟩ nl
    cases nl
    have hd : ds[j]? = some d := by rw [← List.head?_drop, ← e]; rfl
    have hj' := get_lt hd
    have hl : l' = ds.drop (j + 1) := by rw [List.drop_add_one_eq_tail_drop, ← e]; rfl
    refine W'.item j w.s _ E (hn ▸ hj') st fun v h' tk pv st' hk => ⟨v, rfl, go _ _ _ _ _ st' ?_⟩
    have no : ∀ b, w.tag b ≠ .mu I → b ∉ wr := fun b q hb => let ⟨_, z⟩ := m b hb; q z.tag
    have hk' : ∀ b o, w.tag b ≠ .mu I → w.s.heap.get? b = some o → h'.get? b = some o := fun b o q => hk b o (no b q)
    have x : Step (· = I) w (w.put [] .fz h' tk []) := .priv hk'
    refine ⟨w.put [] .fz h' tk [], x, i.priv hk' fun b q ⟨o, z⟩ => ?_, ⟨j + 1, hj', hl, st', haux _ _ x.toMono a, fun b hb => (f b hb).imp id fun ⟨o, z⟩ => ⟨o, x.keep _ _ z⟩, fun b hb => let ⟨_, z⟩ := m b hb; let ⟨o, q⟩ := live _ _ st' b hb; ⟨o, z.tag, q⟩⟩, hP j d _ v hd (haux _ _ x.toMono a) pv⟩
    by_cases hb : b ∈ wr
    · exact live _ _ st' b hb
    · exact ⟨o, hk b o hb z⟩
  done := by
    rintro l σ w l' σ' E i ⟨j, hj, e, st, a, f, m⟩ nl
    cases nl
    have : j = n := hn ▸ Nat.le_antisymm hj (List.drop_eq_nil_iff.mp e.symm)
    subst this
    exact W'.done w.s _ E st fun h' tk hk => ⟨rfl, w, h', tk, .refl _ _, i, fun b o q => hk b o fun hb => let ⟨_, z⟩ := m b hb; q I (.head _) z.tag⟩
end
end Mine
end
section
open PySem PySem.W PyProof.Rows
namespace Mine
inductive IterO (C : Cx) (A : Around) (target : Expr) {ι : Type} (N : ι → St → Option D → ι → St → Prop) (i : ι) (w : W) (σ : St) (it : Value) : Shared → Prop
  | mk (w' : W) (k : Addr) (J : ι → W → Prop) (x : Step NoF w w') (I : Inv C σ w') (X : Itr C A target it k J N) (j : J i w') (hn : NoT w k) (hl : ∃ o, At w' (.mu k) k o) : IterO C A target N i w σ it w'.s
section
variable {C : Cx} {A : Around} {target : Expr} {n : Nat} {P : Nat → Value → Prop} {S : Nat → Heap → Prop} {ds : List D} {w w' : W} {σ : St} {o : Obj} {fp : List Addr}
theorem new_priv (I : Inv C σ w) (hf : o.isFreed = false) (t : Tok) : Step NoF w (w.put [w.s.heap.objs.size] (.mu w.s.heap.objs.size) (w.s.heap.push o) t []) ∧ Inv C σ (w.put [w.s.heap.objs.size] (.mu w.s.heap.objs.size) (w.s.heap.push o) t []) := by
  have hg := Heap.get?_push_size w.s.heap hf
  have c : Chg NoX w (w.put [w.s.heap.objs.size] (.mu w.s.heap.objs.size) (w.s.heap.push o) t []) := .put fun t u0 b o z => ⟨fun m => z.alive.no (List.mem_singleton.mp m ▸ Heap.fresh0 _), Heap.get?_push_of_some _ z.is⟩
  exact ⟨c.step id fun u0 q => q.elim, I.put c id (fun u0 => id) (fun b m => List.mem_singleton.mp m ▸ ⟨_, hg⟩) (fun b ⟨o, e⟩ => ⟨o, Heap.get?_push_of_some _ e⟩) (fun b m q => by cases List.mem_singleton.mp m; exact nomatch (I.dead _ (Heap.fresh0 _)).symm.trans q)
    (fun j e => by cases e; exact ⟨_, if_pos (.head _), hg⟩) fun u0 e => nomatch e⟩
theorem iterO_of (I : Inv C σ w) (hf : o.isFreed = false) (W' : Walks C.prog C.w A w.s.heap.objs.size fp [w.s.heap.objs.size] n P S) (hn : ds.length = n)
    (go : ∀ i (s : Shared) v (Q : Unit → Shared → Prop) E, S i s.heap → Q () s → wpAny C.M A (letOwnedTupleGo target (.ref w.s.heap.objs.size) v) Q E s)
    (live : ∀ i h, S i h → ∃ o, h.get? w.s.heap.objs.size = some o) {aux : W → Prop} (haux : ∀ w w', Mono w w' → aux w → aux w')
    (hP : ∀ i d w v, ds[i]? = some d → aux w → P i v → Rep C w d v) (h0 : aux w) (st : S 0 (w.s.heap.push o)) (hfp : ∀ b ∈ fp, b = w.s.heap.objs.size ∨ ∃ o, At w .fz b o) :
    IterO C A target Nl ds w σ (.ref w.s.heap.objs.size) { w.s with heap := w.s.heap.push o } := by
  obtain ⟨x, I'⟩ := new_priv (t := w.s.toks) I hf
  refine ⟨w.put [w.s.heap.objs.size] (.mu w.s.heap.objs.size) (w.s.heap.push o) w.s.toks [], _, _, x, I', itr_walks W' hn go (fun i h s b m => List.mem_singleton.mp m ▸ live i h s) haux hP,
    ⟨0, Nat.zero_le _, rfl, st, haux _ _ x.toMono h0, fun b hb => (hfp b hb).imp (fun e => List.mem_singleton.mpr e) fun ⟨o, z⟩ => ⟨o, x.keep _ _ z⟩, fun b m => ⟨_, if_pos m, List.mem_singleton.mp m ▸ Heap.get?_push_size _ hf⟩⟩, .of I (Heap.fresh0 _), ⟨_, if_pos (.head _), Heap.get?_push_size _ hf⟩⟩
theorem IterO.after {ι : Type} {N : ι → St → Option D → ι → St → Prop} {i : ι} {it : Value} {σ' : St} {s : Shared} (I : Inv C σ' w) (x : Step NoF w w') : IterO C A target N i w' σ it s → IterO C A target N i w σ it s
  | ⟨w₂, k, J, y, I', X, j, hn, hl⟩ => ⟨w₂, k, J, x.trans y, I', X, j, hn.back I x, hl⟩
end
end Mine
end
section
open PySem PySem.W PyProof.Rows
namespace Mine
noncomputable def goTypes : List String := ["enumerate", "zip", "dict_itemiterator", "dict_reverseitemiterator", "odict_iterator", "itertools.zip_longest", "itertools.pairwise"]
theorem go_of {M : Model} {A : Around} {E : Value → Shared → Prop} {s : Shared} {target : Expr} {I : Addr} {v : Value} {o : Obj} {T : String} {Q : Unit → Shared → Prop} (ho : s.heap.get? I = some o) (hc : o.cls = .type T) (hT : goTypes.contains T = false)
    (h : Q () s) : wpAny M A (letOwnedTupleGo target (.ref I) v) Q E s := by
  have key : ∀ a, wpAny M A (do
      let o ← load I
      match o.cls, o.data with
      | .type n, .fields vs =>
        if goTypes.contains n && vs[0]? == some (rawInt a) then
          rule "for.unpacks-the-owned-tuple"
          updateField I 0 .none
      | _, _ => pure () : Sem Unit) Q E s := by
    intro a
    refine wpAny_bind (wpAny_load ho ?_)
    rw [hc]
    cases o.data <;> first | exact wpAny_pure h | skip
    dsimp only
    rw [hT, Bool.false_and, if_neg (by decide)]
    exact wpAny_pure h
  cases target <;> first | exact wpAny_pure h | skip
  all_goals
    cases v <;> first | exact wpAny_pure h | exact key _
noncomputable def IterOk (d : D) (ds : List D) : Prop := ∀ ⦃C : Cx⦄ ⦃A : Around⦄ ⦃σ : St⦄ ⦃w : W⦄ ⦃v : Value⦄ ⦃target : Expr⦄ ⦃E : Value → Shared → Prop⦄, A.handled = none → Inv C σ w → Rep C w d v → wpAny C.M A (pyIter v) (IterO C A target Nl ds w σ) E w.s
noncomputable def signs (s : Str) : List D := s.cps.toList.map fun c => .str ⟨#[c]⟩
theorem At.ne {w : W} {t : Tag} {a : Addr} {o : Obj} (z : At w t a o) : a ≠ w.s.heap.objs.size := fun q => z.alive.no (q ▸ Heap.fresh0 _)
theorem repL_mono {C : Cx} {l : List D} {vs : List Value} : ∀ w w', Mono w w' → RepL C w l vs → RepL C w' l vs := fun u0 u0 M r => RepL.mono M l vs r
theorem iter_lst {l : List D} : IterOk (.lst l) l := fun C A σ w v target E hh I ⟨a, vs, n, z, r⟩ =>
  wpAny_pyIter_list (items := vs.toArray) ⟨_, z.is, rfl, n, rfl⟩ (iterO_of I rfl (Walks.list hh _ a z.ne vs.toArray) (by rw [List.size_toArray, r.length]) (fun i s' v Q E st q => let ⟨⟨o, ho, hc, _⟩, _⟩ := st; go_of ho hc (by decide) q)
    (fun i h st => let ⟨⟨o, e, _⟩, _⟩ := st; ⟨o, e⟩) (aux := fun w => RepL C w l vs) repL_mono (fun i d w v hd r' hv => let ⟨_, e1, e2⟩ := r'.get hd; by cases e1.symm.trans (List.getElem?_toArray.symm.trans hv); exact e2) r
    ⟨⟨_, Heap.get?_push_size _ rfl, rfl, rfl⟩, ⟨_, Heap.get?_push_of_some _ z.is, rfl, n, rfl⟩⟩ fun b hb => (List.mem_cons.mp hb).imp id fun q => by rw [List.mem_singleton.mp q]; exact ⟨_, z⟩)
theorem iter_tup {l : List D} : IterOk (.tup l) l := fun C A σ w v target E hh I ⟨a, vs, n, z, r⟩ =>
  wpAny_pyIter_tuple (items := vs.toArray) ⟨_, z.is, rfl, n, rfl⟩ (iterO_of I rfl (Walks.tuple hh _ a z.ne vs.toArray) (by rw [List.size_toArray, r.length]) (fun i s' v Q E st q => let ⟨⟨o, ho, hc, _⟩, _⟩ := st; go_of ho hc (by decide) q)
    (fun i h st => let ⟨⟨o, e, _⟩, _⟩ := st; ⟨o, e⟩) (aux := fun w => RepL C w l vs) repL_mono (fun i d w v hd r' hv => let ⟨_, e1, e2⟩ := r'.get hd; by cases e1.symm.trans (List.getElem?_toArray.symm.trans hv); exact e2) r
    ⟨⟨_, Heap.get?_push_size _ rfl, rfl, rfl⟩, ⟨_, Heap.get?_push_of_some _ z.is, rfl, n, rfl⟩⟩ fun b hb => (List.mem_cons.mp hb).imp id fun q => by rw [List.mem_singleton.mp q]; exact ⟨_, z⟩)
end Mine
end
section
open PySem PySem.W PyProof.Rows
namespace Mine
theorem strIter_alive {h : Heap} {a : Addr} {T x t i} (y : h.IsStrIter a T x t i) : ∃ o, h.get? a = some o := let ⟨o, e, _⟩ := y; ⟨o, e⟩
theorem iter_str {x : Str} : IterOk (.str x) (signs x) := fun C A σ w v target E hh I ⟨t, e⟩ => by
  subst e
  have hP : ∀ {P : Nat → Value → Prop}, (∀ i v, P i v → SignAt x i v) → ∀ i d (w : W) v, (signs x)[i]? = some d → True → P i v → Rep C w d v := fun hP i d w v hd u0 hv => by
    unfold signs at hd
    rw [List.getElem?_map] at hd
    obtain ⟨c, e, rfl⟩ := Option.map_eq_some_iff.mp hd
    obtain ⟨c', u, e', rfl⟩ := hP _ _ hv
    cases (Array.getElem?_toList.symm.trans e).symm.trans e'
    exact ⟨u, rfl⟩
  have len : (signs x).length = x.cps.size := List.length_map ..
  cases ha : x.cps.all (· < 128)
  · exact wpAny_pyIter_wide ha (iterO_of I rfl (Walks.strWide hh _ x t) len (fun i s' v Q E st q => let ⟨o, ho, hc, _⟩ := st; go_of ho hc (by decide) q) (fun i h st => strIter_alive st) (aux := fun u0 => True) (fun u0 u0 u0 h => h) (hP fun u0 u0 h => h) trivial ⟨_, Heap.get?_push_size _ rfl, rfl, rfl⟩ fun u0 m => .inl (List.mem_singleton.mp m))
  · exact wpAny_pyIter_ascii ha (iterO_of I rfl (Walks.strAscii hh _ x t) len (fun i s' v Q E st q => let ⟨o, ho, hc, _⟩ := st; go_of ho hc (by decide) q) (fun i h st => strIter_alive st) (aux := fun u0 => True) (fun u0 u0 u0 h => h) (hP fun u0 u0 h => h) trivial ⟨_, Heap.get?_push_size _ rfl, rfl, rfl⟩ fun u0 m => .inl (List.mem_singleton.mp m))
end Mine
end
section
open PySem PySem.W PyProof.Rows
namespace Mine
section
variable {C : Cx} {κ : Type} {w : W}
theorem repK_get : ∀ {l : List (κ × D)} {kvs : List (κ × Value)}, RepK C w l kvs → ∀ {i : Nat} {p : κ × D}, l[i]? = some p → ∃ v, kvs[i]? = some (p.1, v) ∧ Rep C w p.2 v
  | [], _, _, _, _, e => nomatch e
  | _ :: _, _, ⟨v, _, a, _⟩, 0, _, e => by cases e; exact ⟨v, rfl, a⟩
  | _ :: _, _, ⟨_, _, _, b⟩, i + 1, _, e => repK_get b e
theorem repK_len : ∀ {l : List (κ × D)} {kvs : List (κ × Value)}, RepK C w l kvs → kvs.length = l.length
  | [], _, r => congrArg _ r
  | _ :: _, _, ⟨_, _, _, b⟩ => congrArg (· + 1) (repK_len b)
theorem repS_mono {l : List (Str × D)} {vs : List (Str × Value)} : ∀ w w', Mono w w' → RepS C w l vs → RepS C w' l vs := fun u0 u0 M r => RepS.mono M l vs r
end
end Mine
end
section
open PySem PySem.W PyProof.Rows
namespace Mine
inductive WRun (K : Ctx) (test : Expr) (body : List Stmt) : Nat → Rho → St → Rho → St → Prop
  | done {n : Nat} {ρ : Rho} {σ σ' : St} (t : TB K ρ (isTrue test K.env (eval test K.env)) σ false σ') : WRun K test body n ρ σ ρ σ'
  | next {n : Nat} {ρ ρ₁ ρ' : Rho} {σ σ₁ σ₂ σ' : St} (t : TB K ρ (isTrue test K.env (eval test K.env)) σ true σ₁) (b : TS K ρ (execs body K.env) σ₁ .next ρ₁ σ₂) (r : WRun K test body n ρ₁ σ₂ ρ' σ') : WRun K test body (n + 1) ρ σ ρ' σ'
inductive MidW (K : Ctx) (w₀ : W) (R : Rho → St → Prop) : Shared → Prop
  | mk (w : W) (ρ : Rho) (σ : St) (x : Step K.own1 w₀ w) (p : Ok K ρ σ w) (r : R ρ σ) : MidW K w₀ R w.s
theorem TS_while {K : Ctx} {test : Expr} {body : List Stmt} {pos : Pos} {n : Nat} {ρ ρ' : Rho} {σ σ' : St} (r : WRun K test body n ρ σ ρ' σ') : TS K ρ (exec (.While test body [] pos) K.env) σ .next ρ' σ' := fun w₀ E p =>
  wpAny_While (codeAny_mono (codeAny_whileLoop (R := fun r s' => ∃ f, r = .ok f ∧ OutS K w₀ σ' .next ρ' f s') (fun n => MidW K w₀ fun ρ σ => WRun K test body n ρ σ ρ' σ') (fun n s M => by
    obtain ⟨w, ρ, σ, x, p, r⟩ := M
    cases r with
    | done t => exact t.go p fun w1 x1 p1 => wpAny_execs_nil ⟨.next, rfl, w1, x.trans x1.ofN, p1.I, p1.V, .next⟩
    | next t b r => exact t.go p fun w1 x1 p1 => wpAny_mono (b p1) (fun f u0 ⟨w2, x2, I2, V2, h⟩ => by cases h; exact ⟨_, Nat.lt_succ_self _, w2, _, _, x.trans (x1.ofN.trans x2), ⟨p.o, I2, V2⟩, r⟩) fun u0 u0 e => e) n ⟨w₀, ρ, σ, .refl _ _, p, r⟩) (by rintro r s' ⟨f, rfl, o⟩; exact o))
end Mine
end
section
open PySem PySem.W PyProof.Rows
namespace Mine
noncomputable def isComp : Expr → Bool
  | .ListComp .. => true
  | .DictComp .. => true
  | _ => false
noncomputable def testsOf (ifs : List Expr) (env : Env) : Sem Bool := forIn ifs true fun c r => if r = true then do let ok ← isTrue c env (eval c env); pure (ForInStep.yield ok) else pure (ForInStep.yield r)
noncomputable def turnOf (target iter : Expr) (ifs : List Expr) (act : Sem Unit) (c : Code) (it : Value) (env : Env) : Sem Fin :=
  standAt iter.pos >>= fun u0 => pyNext it >>= fun r => match r with
      | none => pure (.done .next)
      | some v => letOwnedTupleGo target it v >>= fun u0 => assign target env v >>= fun u0 =>
        testsOf ifs env >>= fun ok => if ok = true then act >>= fun u0 => again c else again c
noncomputable def emitL (elt : Expr) (acc : Value) (env : Env) : Sem Unit := do let _ ← call (.builtin "list.append") [acc, ← eval elt env]
noncomputable def emitD (k v : Expr) (d : Addr) (env : Env) : Sem Unit := do
        let kv ← eval k env
        let vv ← holding [kv] (eval v env)
        standAt { k.pos with endLine := v.pos.endLine, endCol := v.pos.endCol }
        holding [kv, vv] (dictSet d kv vv)
noncomputable def nestOf (e iter : Expr) (depth : Nat) (acc : Value) (env : Env) : Sem Unit := do
        let x ← eval iter env
        standAt iter.pos
        let x ← foldedSetIterable iter env x
        let _ ← runOwn (.compStart e depth (← holding [x] (pyIter x)) acc env) env
section
variable {target iter elt k v t2 i2 : Expr} {ifs f2 : List Expr} {scope : Scope} {pos : Pos} {it acc : Value} {env : Env} {d : Addr}
theorem turn_l1 : compTurn (.ListComp elt [⟨target, iter, ifs, 0⟩] scope pos) 0 it acc env = turnOf target iter ifs (emitL elt acc env) (.compLoop (.ListComp elt [⟨target, iter, ifs, 0⟩] scope pos) 0 it acc env) it env := by rfl
theorem turn_d1 : compTurn (.DictComp k v [⟨target, iter, ifs, 0⟩] scope pos) 0 it (.ref d) env = turnOf target iter ifs (emitD k v d env) (.compLoop (.DictComp k v [⟨target, iter, ifs, 0⟩] scope pos) 0 it (.ref d) env) it env := by rfl
theorem turn_l2 : compTurn (.ListComp elt [⟨target, iter, ifs, 0⟩, ⟨t2, i2, f2, 0⟩] scope pos) 0 it acc env = turnOf target iter ifs (nestOf (.ListComp elt [⟨target, iter, ifs, 0⟩, ⟨t2, i2, f2, 0⟩] scope pos) i2 1 acc env) (.compLoop (.ListComp elt [⟨target, iter, ifs, 0⟩, ⟨t2, i2, f2, 0⟩] scope pos) 0 it acc env) it env := by
  unfold turnOf nestOf
  simp only [bind_assoc]
  rfl
theorem turn_l3 : compTurn (.ListComp elt [⟨target, iter, ifs, 0⟩, ⟨t2, i2, f2, 0⟩] scope pos) 1 it acc env = turnOf t2 i2 f2 (emitL elt acc env) (.compLoop (.ListComp elt [⟨target, iter, ifs, 0⟩, ⟨t2, i2, f2, 0⟩] scope pos) 1 it acc env) it env := by rfl
end
section
variable {prog : Program} {w : World} {A : Around} {R : Result → Shared → Prop} {s : Shared}
theorem codeAny_compLoop_gen {e : Expr} (he : isComp e = true) {depth : Nat} {it acc : Value} {env : Env} (I : Nat → Shared → Prop)
    (turn : ∀ n s E, I n s → wpAny (model prog w) A (compTurn e depth it acc env) (fun fin s' => match fin with
      | .done f => R (.ok f) s'
      | .again c' => c' = .compLoop e depth it acc env ∧ ∃ m, m < n ∧ I m s') E s) (n : Nat) (h : I n s) :
    codeAny (model prog w) A (.compLoop e depth it acc env) R s := by
  cases e <;> first | (cases he; done) | exact codeAny_loop rfl I (fun n s hI => wpAny_noted (turn n s _ hI)) n h
theorem codeAny_compStart_gen {e : Expr} (he : isComp e = true) {depth : Nat} {target iter : Expr} {ifs : List Expr} (hg : (clausesOf e)[depth]? = some ⟨target, iter, ifs, 0⟩) {it acc : Value} {env : Env}
    (h0 : codeAny (model prog w) A (.compLoop e depth it acc env) R s) (hit : ∀ Q E, Q it s → wpAny (model prog w) A (pyIter it) Q E s) :
    codeAny (model prog w) A (.compStart e depth it acc env) R s := by
  have key : ∀ E, wpAny (model prog w) A (compStart e depth it acc env) (fun fin s' => match fin with
      | .done f => R (.ok f) s'
      | .again c' => c'.quiet = true ∧ codeAny (model prog w) A c' R s') E s := by
    intro E
    have hq : (Code.compLoop e depth it acc env).quiet = true := by cases e <;> first | rfl | cases he
    unfold compStart
    rw [hg]
    refine wpAny_bind (wpAny_askSetting (wpAny_ite ?_))
    split
    · first
        | exact wpAny_bind (wpAny_pure (wpAny_pure (And.intro hq h0)))
        | exact wpAny_pure (And.intro hq h0)
    · first
        | exact wpAny_bind (wpAny_rule (wpAny_bind (wpAny_standAt (wpAny_bind (hit _ _ (wpAny_pure (And.intro hq h0)))))))
        | (refine wpAny_bind (wpAny_rule ?_); show wpAny _ _ (standAt iter.pos >>= _) _ _ s; exact wpAny_bind (wpAny_standAt (wpAny_bind (hit _ _ (wpAny_pure (And.intro hq h0))))))
  refine codeAny_of_tree ?_
  cases e <;> first | (cases he; done) | exact wpAny_notedAt (key _)
end
noncomputable def Le (ρ ρ' : Rho) : Prop := ∀ (i : Nat) (d : D), ρ[i]? = some (some d) → ρ'[i]? = some (some d)
section
variable {K : Ctx} {ρ ρ' ρ₁ ρ₂ : Rho} {w w' : W} {σ σ' σ₁ σ₀ : St} {i j : Nat} {o : Option D}
theorem Le.set (h : ρ[i]? = some none) : Le ρ (ρ.set i o) := fun j d e => by
  by_cases q : i = j
  · subst q; exact nomatch h.symm.trans e
  · rw [List.getElem?_set_ne q]; exact e
theorem Le.trans (a : Le ρ ρ₁) (b : Le ρ₁ ρ₂) : Le ρ ρ₂ := fun i d e => b i d (a i d e)
theorem Ctx.tagOf_none (h : K.once = []) : K.tagOf ρ i = .mu K.L := by
  unfold Ctx.tagOf
  rw [h]
  split
  · rfl
  · exact if_neg List.not_mem_nil
theorem EnvOk.weaken (h : K.once = []) (l : Le ρ ρ') (V : EnvOk K w ρ') : EnvOk K w ρ :=
  ⟨let ⟨o, es, ep, z, e, sk, val⟩ := V.loc; ⟨o, es, ep, z, e, sk, fun i y d a b c => val i y d a b (l i d c)⟩,
   fun y c a => let ⟨o, ov, t, z, e, ne, ht, val, own⟩ := V.cel y c a; ⟨o, ov, t, z, e, ne, ht, fun i d a b c => val i d a b (l i d c), fun i a b c => (own i a b c).trans ((Ctx.tagOf_none h).trans (Ctx.tagOf_none h).symm)⟩, V.ids⟩
noncomputable abbrev Ctx.ownA (K : Ctx) (a : Addr) : Addr → Prop := fun b => K.own1 b ∨ b = a
inductive OutG (K : Ctx) (F : Addr → Prop) {γ : Type} (G : γ → W → Prop) (w : W) (σ : St) (g : γ) (ρ : Rho) : Shared → Prop
  | mk (w' : W) (x : Step F w w') (p : Ok K ρ σ w') (q : G g w') : OutG K F G w σ g ρ w'.s
noncomputable def TG (K : Ctx) (a : Addr) {γ : Type} (G : γ → W → Prop) (ρ : Rho) (act : Sem Unit) (σ : St) (g : γ) (σ' : St) (g' : γ) : Prop :=
  ∀ ⦃w : W⦄ ⦃E : Value → Shared → Prop⦄, Ok K ρ σ w → G g w → wpAny K.C.M K.A act (fun u0 => OutG K (K.ownA a) G w σ' g' ρ) E w.s
structure Gat (a : Addr) {γ : Type} (G : γ → W → Prop) : Prop where
  go : ∀ {g w w'}, Mono w w' → Keeps w w' (.mu a) → G g w → G g w'
inductive CRun (K : Ctx) (a : Addr) {γ : Type} (G : γ → W → Prop) (target : Expr) (ifs : List Expr) (act : Sem Unit) (ρ : Rho) : List D → St → γ → St → γ → Prop
  | nil {σ : St} {g : γ} : CRun K a G target ifs act ρ [] σ g σ g
  | skip {d : D} {ds : List D} {ρ₁ : Rho} {σ σ₁ σ' : St} {g g' : γ} (h : Asg K target d ρ ρ₁) (l : Le ρ ρ₁) (t : TB K ρ₁ (testsOf ifs K.env) σ false σ₁) (r : CRun K a G target ifs act ρ ds σ₁ g σ' g') : CRun K a G target ifs act ρ (d :: ds) σ g σ' g'
  | act {d : D} {ds : List D} {ρ₁ : Rho} {σ σ₁ σ₂ σ' : St} {g g₁ g' : γ} (h : Asg K target d ρ ρ₁) (l : Le ρ ρ₁) (t : TB K ρ₁ (testsOf ifs K.env) σ true σ₁) (e : TG K a G ρ₁ act σ₁ g σ₂ g₁) (r : CRun K a G target ifs act ρ ds σ₂ g₁ σ' g') : CRun K a G target ifs act ρ (d :: ds) σ g σ' g'
inductive MidC (K : Ctx) {γ : Type} (F : Addr → Prop) (J : List D → W → Prop) (G : γ → W → Prop) (w₀ : W) (ρ : Rho) (R : List D → St → γ → Prop) (n : Nat) : Shared → Prop
  | mk (w : W) (ds : List D) (σ : St) (g : γ) (x : Step F w₀ w) (p : Ok K ρ σ w) (j : J ds w) (q : G g w) (r : R ds σ g) (hn : n = ds.length) : MidC K F J G w₀ ρ R n w.s
theorem comp_loop {γ : Type} {a k : Addr} {G : γ → W → Prop} {J : List D → W → Prop} {e target iter : Expr} {ifs : List Expr} {act : Sem Unit} {depth : Nat} {it acc : Value} {ds : List D} {g g' : γ} (he : isComp e = true)
    (ht : compTurn e depth it acc K.env = turnOf target iter ifs act (.compLoop e depth it acc K.env) it K.env) (X : Itr K.C K.A target it k J Nl) (Gm : Gat a G) (h1 : K.once = []) (p : Ok K ρ σ w) (hid : ∀ j ∈ K.ids, j ≠ k ∧ j ≠ a) (hka : k ≠ a) (j : J ds w) (q : G g w)
    (r : CRun K a G target ifs act ρ ds σ g σ' g') : codeAny K.C.M K.A (.compLoop e depth it acc K.env) (fun r s' => r = .ok .next ∧ OutG K (fun b => K.ownA a b ∨ b = k) G w σ' g' ρ s') w.s := by
  have hL : K.L ≠ k := (hid _ p.o.id).1
  have hLa : K.L ≠ a := (hid _ p.o.id).2
  refine codeAny_compLoop_gen he (fun n => MidC K (fun b => K.ownA a b ∨ b = k) J G w ρ (fun ds σ g => CRun K a G target ifs act ρ ds σ g σ' g') n) (fun n s E M => ?_) ds.length ⟨w, ds, σ, g, .refl _ _, p, j, q, r, rfl⟩
  obtain ⟨w₁, ds₁, σ₁, g₁, x, p, j, q, r, hn⟩ := M
  rw [ht]
  refine wpAny_bind (wpAny_standAt ?_)
  have one : ∀ {d ds σ₂ ρ₁ b} {Q : Fin → Shared → Prop}, J (d :: ds) w₁ → Asg K target d ρ ρ₁ → TB K ρ₁ (testsOf ifs K.env) σ₁ b σ₂ →
      (∀ w', Step (fun c => K.ownA a c ∨ c = k) w w' → Ok K ρ₁ σ₂ w' → J ds w' → G g₁ w' → wpAny K.C.M K.A (if b = true then act >>= fun u0 => again (.compLoop e depth it acc K.env) else again (.compLoop e depth it acc K.env)) Q E w'.s) →
      wpAny K.C.M K.A (pyNext it >>= fun r => match r with
        | none => pure (.done .next)
        | some v => letOwnedTupleGo target it v >>= fun u0 => assign target K.env v >>= fun u0 =>
          testsOf ifs K.env >>= fun ok => if ok = true then act >>= fun u0 => again (.compLoop e depth it acc K.env) else again (.compLoop e depth it acc K.env)) Q E w₁.s := fun j h t hq =>
    wpAny_bind (wpAny_mono (X.item p.I j (.some _ _ _)) (fun u0 u0 ⟨v, e, y⟩ => by
      subst e
      exact wpAny_bind (wpAny_mono y (fun u0 u0 ⟨w2, x2, I2, j2, r2⟩ =>
        have V2 := p.V.step p.o x2 fun j m e => (hid j m).1 e
        have q2 := Gm.go x2.toMono (x2.mu a fun e => hka e.symm) q
        wpAny_bind (wpAny_mono (assign_ok h ⟨p.o, I2, V2⟩ r2) (fun u0 u0 ⟨w3, x3, I3, V3⟩ =>
          have q3 := Gm.go x3.toMono (x3.mu a fun e => hLa e.symm) q2
          wpAny_bind (t.go ⟨p.o, I3, V3⟩ fun w4 x4 p4 => hq w4 (x.trans ((x2.weaken fun u0 => .inr).trans ((x3.weaken fun u0 e => .inl (.inl e)).trans x4.ofN))) p4 (X.stable (X.stable j2 x3 fun e => hL e.symm) x4 id) (Gm.go x4.toMono (x4.mu a id) q3))) fun u0 u0 e => e)) fun u0 u0 e => e)) fun u0 u0 e => e)
  cases r with
  | nil =>
    refine wpAny_bind (wpAny_mono (X.done p.I j (.none _)) (fun u0 u0 ⟨e1, o⟩ => ?_) fun u0 u0 e => e)
    subst e1
    obtain ⟨w2, h, t, x1, I1, hk⟩ := o
    have x3 : Step (· = k) w₁ (w2.fin [k] h t) := ⟨⟨fun b o z => fin_keep (t := .fz) hk (fun u0 u0 e => nomatch e) _ _ (x1.keep b o z), x1.main⟩, fun b f => fun a o z => fin_keep hk (fun i m e => by cases e; exact f (List.mem_singleton.mp m)) _ _ (x1.mu b f a o z), let ⟨_, _, e⟩ := x1.rest; ⟨h, t, by show ({ w2.s with heap := h, toks := t } : Shared) = _; rw [e]⟩⟩
    exact wpAny_pure ⟨rfl, w2.fin [k] h t, x.trans (x3.weaken fun u0 => .inr), ⟨p.o, I1.fin hk, p.V.step p.o x3 fun j m e => (hid j m).1 e⟩, Gm.go x3.toMono (x3.mu a fun e => hka e.symm) q⟩
  | skip h l t r =>
    subst hn
    exact one j h t fun w' x' p' j' q' => wpAny_pure ⟨rfl, _, Nat.lt_succ_self _, w', _, _, _, x', ⟨p'.o, p'.I, p'.V.weaken h1 l⟩, j', q', r, rfl⟩
  | act h l t y r =>
    subst hn
    exact one j h t fun w' x' p' j' q' => wpAny_bind (wpAny_mono (y p' q') (fun u0 u0 ⟨w2, x2, p2, q2⟩ => wpAny_pure ⟨rfl, _, Nat.lt_succ_self _, w2, _, _, _, x'.trans (x2.weaken fun u0 => .inl), ⟨p2.o, p2.I, p2.V.weaken h1 l⟩, X.stable j' x2 fun e => e.elim (fun e => hL e.symm) hka, q2, r, rfl⟩) fun u0 u0 e => e)
end
end Mine
end
section
open PySem PySem.W PyProof.Rows
namespace Mine
noncomputable def GL (C : Cx) (a : Addr) (l : List D) (w : W) : Prop := HSeq w (.mu a) "list" (RepL C w l) a
noncomputable def GD (C : Cx) (a : Addr) (l : List (Str × D)) (w : W) : Prop := HDict w (.mu a) (IsDs C) (RepS C w l) a
section
variable {C : Cx} {a : Addr} {w : W} {κ : Type}
theorem gat_L : Gat a (GL C a) := ⟨fun M k => HSeq.mono k (RepL.mono M _) _⟩
theorem gat_D : Gat a (GD C a) := ⟨fun M k => HDict.mono k (RepS.mono M _) _⟩
theorem stored_cons [DecidableEq κ] {kvs : List (κ × Value)} {j k : κ} {x v : Value} (hn : (((j, x) :: kvs).map (·.1)).Nodup) : stored ((j, x) :: kvs) k v = if j = k then (j, v) :: kvs else (j, x) :: stored kvs k v := by
  have hn := List.nodup_cons.mp hn
  unfold stored
  by_cases q : j = k
  · subst q
    rw [if_pos (List.any_cons.trans (by rw [decide_eq_true rfl]; rfl)), if_pos rfl, List.map_cons, if_pos rfl, map_store_of_not_mem kvs j v hn.1]
  · rw [if_neg q, List.any_cons, decide_eq_false q, Bool.false_or, List.map_cons, if_neg q]
    split <;> rfl
theorem repK_stored [DecidableEq κ] : ∀ {l : List (κ × D)} {kvs : List (κ × Value)} {k : κ} {d : D} {v : Value}, RepK C w l kvs → (kvs.map (·.1)).Nodup → Rep C w d v → RepK C w (kset l k d) (stored kvs k v)
  | [], _, k, d, v, r, hn, a => by cases r; exact ⟨v, [], a, rfl⟩
  | (j, x) :: l, _, k, d, v, ⟨y, r', e, b⟩, hn, a => by
    rw [stored_cons hn]
    show RepK C w (if j = k then (j, d) :: l else (j, x) :: kset l k d) _
    by_cases q : j = k
    · rw [if_pos q, if_pos q]; exact ⟨v, r', a, b⟩
    · rw [if_neg q, if_neg q]; exact ⟨y, _, e, repK_stored b (List.nodup_cons.mp hn).2 a⟩
theorem isDictOf_nodup [DecidableEq κ] {prog : Program} {w : World} {knd : KeyKind prog w κ} {o : Obj} {kvs : List (κ × Value)} (x : o.IsDictOf knd kvs) : (kvs.map (·.1)).Nodup := let ⟨_, _, _, _, _, _, r⟩ := x; r
end
section
variable {K : Ctx} {a : Addr} {ρ : Rho} {σ σ' σ₁ : St} {d : D} {w w' : W}
theorem own_step {h : Heap} {t : Tok} {o o' : Obj} (p : Ok K ρ σ w) (ha : a ∉ K.ids) (z : At w (.mu a) a o) (e : h.get? a = some o') (hs : ∀ b, b ≠ a → h.get? b = w.s.heap.get? b) :
    Step (· = a) w (w.put [] .fz h t []) ∧ Ok K ρ σ (w.put [] .fz h t []) ∧ At (w.put [] .fz h t []) (.mu a) a o' :=
  have hk : ∀ b o, w.tag b ≠ .mu a → w.s.heap.get? b = some o → h.get? b = some o := fun b o n e => (hs b fun q => n (q ▸ z.tag)).trans e
  have x : Step (· = a) w (w.put [] .fz h t []) := .priv hk
  ⟨x, ⟨p.o, p.I.priv hk fun b u0 ⟨o, q⟩ => by
    by_cases n : b = a
    · exact ⟨o', n ▸ e⟩
    · exact ⟨o, (hs b n).trans q⟩, p.V.step p.o x fun j m e => ha (e ▸ m)⟩, z.tag, e⟩
theorem TG_list {elt : Expr} {l : List D} (he : TE K ρ (eval elt K.env) σ d σ') (ha : a ∉ K.ids) (hz : l.length < 16777216) : TG K a (GL K.C a) ρ (emitL elt (.ref a) K.env) σ l σ' (l ++ [d]) := fun u0 u0 p q =>
  wpAny_bind (he.go p fun v w1 n => by
    obtain ⟨vs, k, z, r⟩ := gat_L.go n.x.toMono (n.x.mu a id) q
    refine wpAny_bind (wpAny_list_append_plain ⟨k, z.is⟩ (fun h' hp hs => ?_) (by rw [sizeLine_is, List.size_toArray, r.length]; exact Nat.le_of_lt hz))
    obtain ⟨k', e'⟩ := hp
    obtain ⟨x2, p2, z2⟩ := own_step (t := w1.s.toks) n.p ha z e' hs.2
    exact wpAny_pure ⟨_, n.x.ofN.trans (x2.weaken fun u0 => .inr), p2, vs ++ [v], k', by rw [show seqObj "list" (vs ++ [v]) k' = { cls := .type "list", data := .seq (vs.toArray.push v) k' } by rw [List.push_toArray]]; exact z2, (x2.repL r).append ⟨v, [], x2.rep n.r, rfl⟩⟩)
theorem TG_dict {kx vx : Expr} {k : Str} {l : List (Str × D)} (hk : TE K ρ (eval kx K.env) σ (.str k) σ₁) (hv : TE K ρ (eval vx K.env) σ₁ d σ') (ha : a ∉ K.ids) (hz : l.length < 16777216) : TG K a (GD K.C a) ρ (emitD kx vx a K.env) σ l σ' (kset l k d) := fun u0 u0 p q =>
  wpAny_bind (hk.go p fun kv w1 n1 => wpAny_bind (wpAny_holding (hv.go n1.p fun vv w2 n2 => by
    have x12 := n1.x.trans n2.x
    obtain ⟨o, kvs, ne, z, hd, r⟩ := gat_D.go x12.toMono (x12.mu a id) q
    obtain ⟨t, e⟩ := n2.x.rep n1.r
    subst e
    refine wpAny_bind (wpAny_standAt (wpAny_holding (wpAny_dictSet_pairs (knd := strKind K.C.prog K.C.w) (k := k) (hsz := by rw [sizeLine_is, repK_len (repS_K l ▸ r)]; exact Nat.le_of_lt hz) (strKind_is _ _ _ _) (ds_mapOf z hd) fun h' hp hs' => ?_)))
    obtain ⟨o', e', hd'⟩ := Heap.dictOf_iff.mp hp
    obtain ⟨x3, p3, z3⟩ := own_step (t := w2.s.toks + 1) n2.p ha z e' hs'.2
    exact ⟨_, x12.ofN.trans (x3.weaken fun u0 => .inr), p3, o', _, ne, z3, hd', by rw [repS_K]; exact repK_stored (by rw [← repS_K]; exact RepS.mono x3.toMono _ _ r) (isDictOf_nodup hd) (x3.rep n2.r)⟩)))
theorem TT_nil : TB K ρ (testsOf [] K.env) σ true σ := fun w u0 p => by
  unfold testsOf
  rw [List.forIn_nil]
  exact wpAny_pure ⟨w, .refl _ _, p.I⟩
theorem TT_one {c : Expr} {b : Bool} (h : TB K ρ (isTrue c K.env (eval c K.env)) σ b σ') : TB K ρ (testsOf [c] K.env) σ b σ' := fun u0 u0 p => by
  unfold testsOf
  rw [List.forIn_cons]
  exact wpAny_bind (wpAny_bind (h.go p fun w1 x1 p1 => wpAny_pure (show wpAny _ _ (forIn [] b _) _ _ _ from by rw [List.forIn_nil]; exact wpAny_pure ⟨w1, x1, p1.I⟩)))
section
variable {α : Type} {target elt : Expr} {ifs : List Expr}
theorem CRun.list (ha : a ∉ K.ids) (e f : α → D) (p : α → Bool) : ∀ (xs : List α) (n : List D), n.length + xs.length ≤ 16777216 → (∀ x ∈ xs, ∃ ρ₁, Asg K target (e x) ρ ρ₁ ∧ Le ρ ρ₁ ∧ TB K ρ₁ (testsOf ifs K.env) σ (p x) σ ∧ (p x = true → TE K ρ₁ (eval elt K.env) σ (f x) σ)) →
    CRun K a (GL K.C a) target ifs (emitL elt (.ref a) K.env) ρ (xs.map e) σ n σ (n ++ (xs.filter p).map f)
  | [], n, _, _ => (List.append_nil n).symm ▸ .nil
  | x :: xs, n, hz, h => by
    obtain ⟨ρ₁, h1, h2, h3, h4⟩ := h x (.head _)
    rw [List.length_cons] at hz
    rw [List.map_cons, List.filter_cons]
    cases q : p x with
    | false => exact .skip h1 h2 (q ▸ h3) (CRun.list ha e f p xs n (by omega) fun y m => h y (.tail _ m))
    | true =>
      have ih := CRun.list ha e f p xs (n ++ [f x]) (by rw [List.length_append]; exact (by omega : n.length + 1 + xs.length ≤ 16777216)) fun y m => h y (.tail _ m)
      rw [List.append_assoc] at ih
      exact .act h1 h2 (q ▸ h3) (TG_list (h4 q) ha (by omega)) ih
theorem CRun.map (ha : a ∉ K.ids) (e f : α → D) (xs : List α) (hz : xs.length ≤ 16777216) (h : ∀ x ∈ xs, ∃ ρ₁, Asg K target (e x) ρ ρ₁ ∧ Le ρ ρ₁ ∧ TE K ρ₁ (eval elt K.env) σ (f x) σ) :
    CRun K a (GL K.C a) target [] (emitL elt (.ref a) K.env) ρ (xs.map e) σ [] σ (xs.map f) := by
  have := CRun.list (ifs := []) (elt := elt) ha e f (fun u0 => true) xs [] (by rw [List.length_nil, Nat.zero_add]; exact hz) fun x m => let ⟨ρ₁, a, b, c⟩ := h x m; ⟨ρ₁, a, b, TT_nil, fun u0 => c⟩
  rwa [List.filter_eq_self.mpr fun u0 u0 => rfl, List.nil_append] at this
theorem kset_new {κ : Type} [DecidableEq κ] : ∀ {l : List (κ × D)} {k : κ}, k ∉ l.map (·.1) → ∀ d, kset l k d = l ++ [(k, d)]
  | [], _, _, _ => rfl
  | (j, x) :: l, k, h, d => (if_neg fun (q : j = k) => h (q ▸ .head _)).trans (congrArg ((j, x) :: ·) (kset_new (fun m => h (.tail _ m)) d))
theorem CRun.dict {kx vx : Expr} (ha : a ∉ K.ids) (e f : α → D) (k : α → Str) (p : α → Bool) : ∀ (xs : List α) (n : List (Str × D)), n.length + xs.length ≤ 16777216 → (n.map (·.1) ++ (xs.filter p).map k).Nodup →
    (∀ x ∈ xs, ∃ ρ₁, Asg K target (e x) ρ ρ₁ ∧ Le ρ ρ₁ ∧ TB K ρ₁ (testsOf ifs K.env) σ (p x) σ ∧ (p x = true → TE K ρ₁ (eval kx K.env) σ (.str (k x)) σ ∧ TE K ρ₁ (eval vx K.env) σ (f x) σ)) →
    CRun K a (GD K.C a) target ifs (emitD kx vx a K.env) ρ (xs.map e) σ n σ (n ++ (xs.filter p).map fun x => (k x, f x))
  | [], n, _, _, _ => (List.append_nil n).symm ▸ .nil
  | x :: xs, n, hz, hn, h => by
    obtain ⟨ρ₁, h1, h2, h3, h4⟩ := h x (.head _)
    rw [List.length_cons] at hz
    rw [List.filter_cons] at hn
    rw [List.map_cons, List.filter_cons]
    cases q : p x with
    | false => rw [q] at hn; exact .skip h1 h2 (q ▸ h3) (CRun.dict ha e f k p xs n (by omega) hn fun y m => h y (.tail _ m))
    | true =>
      rw [q] at hn
      have nk : k x ∉ n.map (·.1) := fun m => (List.nodup_append.mp hn).2.2 _ m _ (.head _) rfl
      have ih := CRun.dict ha e f k p xs (n ++ [(k x, f x)]) (by rw [List.length_append]; exact (by omega : n.length + 1 + xs.length ≤ 16777216)) (by rw [List.map_append, List.append_assoc]; exact hn) fun y m => h y (.tail _ m)
      rw [List.append_assoc] at ih
      exact .act h1 h2 (q ▸ h3) (kset_new nk (f x) ▸ TG_dict (h4 q).1 (h4 q).2 ha (by omega)) ih
end
end
end Mine
end
section
open PySem PySem.W PyProof.Rows
namespace Mine
theorem cellsFrom_app : ∀ (names : List (Str × NameKind)) (n : Nat) (acc : List (Str × Addr)), cellsFrom n names acc = cellsFrom n names [] ++ acc
  | [], _, _ => rfl
  | (x, k) :: r, n, acc => by
    unfold cellsFrom
    split
    · rw [cellsFrom_app r (n + 1) ((x, n) :: acc), cellsFrom_app r (n + 1) [(x, n)], List.append_assoc]; rfl
    · exact cellsFrom_app r n acc
theorem cellsFrom_names : ∀ (names : List (Str × NameKind)) (n : Nat) (x : Str) (c : Addr), (x, c) ∈ cellsFrom n names [] → (x, NameKind.cell) ∈ names
  | (y, k) :: r, n, x, c, h => by
    unfold cellsFrom at h
    split at h
    · rename_i hk
      rw [cellsFrom_app] at h
      rcases List.mem_append.mp h with h | h
      · exact .tail _ (cellsFrom_names r _ x c h)
      · cases List.mem_singleton.mp h; cases eq_of_beq hk; exact .head _
    · exact .tail _ (cellsFrom_names r _ x c h)
theorem cellsFrom_has : ∀ (names : List (Str × NameKind)) (n : Nat) (x : Str), (x, NameKind.cell) ∈ names → ∃ c, (x, c) ∈ cellsFrom n names []
  | (y, k) :: r, n, x, h => by
    unfold cellsFrom
    rcases List.mem_cons.mp h with e | h
    · cases e
      rw [if_pos (by rfl), cellsFrom_app]
      exact ⟨n, List.mem_append_right _ (.head _)⟩
    · split
      · obtain ⟨c, hc⟩ := cellsFrom_has r (n + 1) x h
        rw [cellsFrom_app]
        exact ⟨c, List.mem_append_left _ hc⟩
      · exact cellsFrom_has r n x h
theorem lookup_some_of_mem {α : Type} : ∀ {l : List (Str × α)} {x : Str} {c : α}, (x, c) ∈ l → ∃ c', l.lookup x = some c'
  | (y, d) :: r, x, c, h => by
    rw [List.lookup_cons]
    cases hb : x == y with
    | true => exact ⟨d, rfl⟩
    | false => exact (List.mem_cons.mp h).elim (fun e => by cases e; rw [BEq.rfl] at hb; cases hb) fun h => lookup_some_of_mem h
inductive HandOk (K : Ctx) (w : W) (ρ : Rho) (x : Str) (c : Addr) : Prop
  | mk (o : Obj) (ov : Option Value) (t : Tag) (z : At w t c o) (e : o.data = .cell ov) (ht : t = .fz ∨ ∃ k ∈ K.ids, t = .mu k) (val : ∀ (i : Nat) d, K.ns[i]? = some x → ρ[i]? = some (some d) → ∃ v, ov = some v ∧ Rep K.C w d v)
structure FrameAt (K : Ctx) (w : W) (names : List (Str × NameKind)) (cl : List (Str × Addr)) (ρ : Rho) : Prop where
  room : Rm K.k K.A
  scope : K.env.scope = K.fd.scope
  kind : K.env.scope.kind = .function
  glob : K.env.globals = mainGlobals
  bi : K.env.builtins = builtinsNs
  nd : K.ns.Nodup
  loc : K.L = w.s.heap.objs.size
  cells : K.env.cells = cellsFrom (w.s.heap.objs.size + 1) names cl
  id : K.L ∈ K.ids
  ids : ∀ j ∈ K.ids, j = K.L ∨ ∃ o, At w (.mu j) j o
  bl : ∀ i ∈ K.own, ∀ d, ρ[i]? ≠ some (some d)
  bt : ∀ i ∈ K.own, K.tagOf ρ i = .mu K.L
  all : ∀ (i : Nat) x, K.ns[i]? = some x → K.env.kindOf x = some .local ∨ (x, NameKind.cell) ∈ names → i ∈ K.own
  own : ∀ i ∈ K.own, ∀ x, K.ns[i]? = some x → K.env.kindOf x = some .local ∨ K.env.kindOf x = some .cell ∧ (x, NameKind.cell) ∈ names
  has : ∀ x, K.Cl x → (x, NameKind.cell) ∈ names ∨ ∃ c, cl.lookup x = some c
  hand : ∀ x c, cl.lookup x = some c → HandOk K w ρ x c
inductive NewF (K : Ctx) (w : W) (σ : St) (ρ : Rho) : Shared → Prop
  | mk (w' : W) (x : Step NoF w w') (p : Ok K ρ σ w') : NewF K w σ ρ w'.s
theorem frame_new {K : Ctx} {w : W} {σ : St} {names : List (Str × NameKind)} {cl : List (Str × Addr)} {ρ : Rho} (F : FrameAt K w names cl ρ) (I : Inv K.C σ w) (T : Value) (t : Tok) :
    NewF K w σ ρ { w.s with heap := pushCells (w.s.heap.push { cls := T, data := .dict #[] }) names, toks := t } := by
  have f0 := Heap.fresh0 w.s.heap
  have ok := cellsFrom_ok names (w.s.heap.push { cls := T, data := .dict #[] }) (w.s.heap.objs.size + 1) [] ⟨(fun u0 u0 hm => nomatch hm), List.Pairwise.nil⟩ (by rw [Heap.size_push]; exact Nat.le_refl _)
  rw [Heap.size_push] at ok
  have hkp := pushCells_keeps names (w.s.heap.push { cls := T, data := .dict #[] })
  have gl := hkp _ _ (Heap.get?_push_size w.s.heap (o := { cls := T, data := .dict #[] }) rfl)
  generalize pushCells (w.s.heap.push { cls := T, data := .dict #[] }) names = h at ok hkp gl ⊢
  have hcn := cellsFrom_names names (w.s.heap.objs.size + 1)
  have hch := cellsFrom_has names (w.s.heap.objs.size + 1)
  have hc := F.cells.trans (cellsFrom_app _ _ _)
  generalize cellsFrom (w.s.heap.objs.size + 1) names [] = cs at ok hcn hch hc
  rw [← F.loc] at f0 ok gl
  have hk : ∀ b o, w.s.heap.get? b = some o → h.get? b = some o := fun b o e => hkp b o (Heap.get?_push_of_some _ e)
  have fresh : ∀ b ∈ K.L :: cs.map (·.2), w.s.heap.get? b = none := fun b m => (List.mem_cons.mp m).elim (fun e => e ▸ f0) fun m => by
    obtain ⟨⟨x, c⟩, m', rfl⟩ := List.mem_map.mp m
    exact dead_of fun ⟨o, q⟩ => absurd (Heap.lt_size q) (Nat.not_lt.mpr (F.loc ▸ Nat.le_of_succ_le (ok.empty x c m').2))
  have c : Chg NoX w (w.put (K.L :: cs.map (·.2)) (.mu K.L) h t []) := .put fun t' u0 b o z => ⟨fun m => z.alive.no (fresh b m), hk b o z.is⟩
  have X : Step NoF w (w.put (K.L :: cs.map (·.2)) (.mu K.L) h t []) := c.step id fun u0 q => q.elim
  have zl : At (w.put (K.L :: cs.map (·.2)) (.mu K.L) h t []) (.mu K.L) K.L { cls := T, data := .dict #[] } := ⟨if_pos (.head _), gl⟩
  have look : ∀ x c, K.env.cells.lookup x = some c → cs.lookup x = some c ∨ cs.lookup x = none ∧ cl.lookup x = some c := fun x c e => by
    rw [hc, List.lookup_append] at e
    cases q : cs.lookup x with
    | none => rw [q] at e; exact .inr ⟨rfl, e⟩
    | some c' => rw [q] at e; exact .inl e
  have looks : ∀ x c, cs.lookup x = some c → K.env.cells.lookup x = some c := fun x c e => by rw [hc, List.lookup_append, e]; rfl
  have inCs : ∀ x, (x, NameKind.cell) ∈ names → ∃ c, cs.lookup x = some c := fun x hx => let ⟨_, m⟩ := hch x hx; lookup_some_of_mem m
  have new : ∀ x c, cs.lookup x = some c → ∃ o, At (w.put (K.L :: cs.map (·.2)) (.mu K.L) h t []) (.mu K.L) c o ∧ o.data = .cell none ∧ c ≠ K.L := fun x c e => by
    have m := mem_of_lookup e
    obtain ⟨⟨o, e1, e2⟩, hlo⟩ := ok.empty x c m
    exact ⟨o, ⟨if_pos (.tail _ (List.mem_map.mpr ⟨_, m, rfl⟩)), e1⟩, e2, fun q => Nat.lt_irrefl _ (q ▸ hlo)⟩
  refine ⟨_, X, ⟨F.room, F.scope, F.kind, F.glob, F.bi, F.nd, F.id, fun i hi x e => (F.own i hi x e).imp id (·.1), fun x q => (F.has x q).elim (fun q => let ⟨c, e⟩ := inCs x q; ⟨c, looks x c e⟩) fun ⟨c, e⟩ => ?_, fun i hi x y c' e1 e2 e3 e4 => ?_⟩,
    I.put c id (fun u0 => id) (fun b m => (List.mem_cons.mp m).elim (fun e => e ▸ ⟨_, gl⟩) fun m => ?_) (fun b ⟨o, e⟩ => ⟨o, hk b o e⟩) (fun b m q => nomatch (I.dead b (fresh b m)).symm.trans q) (fun j e => by cases e; exact ⟨_, zl⟩) (fun u0 e => nomatch e),
    ⟨_, #[], 0, zl, rfl, (fun u0 m => nomatch m), fun i x d e1 e2 e3 => (F.bl i (F.all i x e1 (.inl e2)) d e3).elim⟩, fun x c' e => (look x c' e).elim (fun q => ?_) fun ⟨q, e⟩ => ?_, fun j m => (F.ids j m).elim (fun e => by rw [e]; exact ⟨_, zl⟩) fun ⟨o, z⟩ => ⟨o, X.mu j id _ _ z⟩⟩
  · cases q : cs.lookup x with
    | some c' => exact ⟨c', looks x c' q⟩
    | none => exact ⟨c, by rw [hc, List.lookup_append, q]; exact e⟩
  · have hx : (x, NameKind.cell) ∈ names := (F.own i hi x e1).elim (fun q => nomatch e2.symm.trans q) (·.2)
    obtain ⟨c₂, q⟩ := inCs x hx
    cases (looks x c₂ q).symm.trans e3
    rcases look y _ e4 with z | ⟨_, z⟩
    · exact name_of_addr ok.apart (mem_of_lookup q) (mem_of_lookup z)
    · obtain ⟨o, u1, u2, z, u3⟩ := F.hand y _ z
      exact (z.alive.no (fresh _ (.tail _ (List.mem_map.mpr ⟨_, mem_of_lookup q, rfl⟩)))).elim
  · obtain ⟨⟨x, c⟩, m', rfl⟩ := List.mem_map.mp m
    obtain ⟨⟨o, e1, u1⟩, u2⟩ := ok.empty x c m'
    exact ⟨o, e1⟩
  · obtain ⟨o, z, e1, ne⟩ := new x c' q
    exact ⟨o, none, _, z, e1, ne, .inr ⟨_, F.id, rfl⟩, (fun i d a b e => (F.bl i (F.all i x a (.inr (hcn x c' (mem_of_lookup q)))) d e).elim), fun i hi a b => (F.bt i hi).symm⟩
  · obtain ⟨o, ov, t', z, e1, ht, val⟩ := F.hand x c' e
    refine ⟨o, ov, t', c.keep t' id _ _ z, e1, fun q => z.alive.no (q ▸ f0), ht, fun i d a u0 b => let ⟨v, p, r⟩ := val i d a b; ⟨v, p, X.rep r⟩, fun i hi a b => ?_⟩
    obtain ⟨c₂, q₂⟩ := inCs x ((F.own i hi x a).elim (fun q => nomatch b.symm.trans q) (·.2))
    exact nomatch q.symm.trans q₂
end Mine
end
section
open PySem PySem.W PyProof.Rows
namespace Mine
noncomputable abbrev freeStep (env : Env) (p : Str × NameKind) (cs : List (Str × Addr)) : Sem (ForInStep (List (Str × Addr))) := if (p.2 == .free) = true then (do let c ← cellOf env p.1; pure (ForInStep.yield ((p.1, c) :: cs))) else pure (ForInStep.yield cs)
structure ClOk (env : Env) (names : List (Str × NameKind)) (acc cl : List (Str × Addr)) : Prop where
  run : (forIn names acc (freeStep env) : Sem (List (Str × Addr))) = pure cl
  from' : ∀ x c, cl.lookup x = some c → (env.cells.lookup x = some c ∧ (x, NameKind.free) ∈ names) ∨ acc.lookup x = some c
  has : ∀ x, (x, NameKind.free) ∈ names → ∃ c, cl.lookup x = some c
  old : ∀ x c, acc.lookup x = some c → ∃ c', cl.lookup x = some c'
theorem closure_go {env : Env} : ∀ (names : List (Str × NameKind)) (acc : List (Str × Addr)), (∀ x, (x, NameKind.free) ∈ names → ∃ c, env.cells.lookup x = some c) → ∃ cl, ClOk env names acc cl
  | [], acc, _ => ⟨acc, List.forIn_nil .., fun x c e => .inr e, (fun x h => nomatch h), fun x c e => ⟨c, e⟩⟩
  | (n, k) :: r, acc, h => by
    have hr : ∀ x, (x, NameKind.free) ∈ r → ∃ c, env.cells.lookup x = some c := fun x hx => h x (.tail _ hx)
    by_cases hk : k = .free
    · subst hk
      obtain ⟨c0, hc0⟩ := h n (.head _)
      obtain ⟨cl, e⟩ := closure_go r ((n, c0) :: acc) hr
      have hself : ((n, c0) :: acc).lookup n = some c0 := by rw [List.lookup_cons, BEq.rfl]
      refine ⟨cl, (List.forIn_cons ..).trans ?_, fun x c e' => ?_, fun x hx => (List.mem_cons.mp hx).elim (fun q => by cases q; exact e.old n c0 hself) (e.has x), fun x c e' => ?_⟩
      · show (do let r ← (do let c ← cellOf env n; pure (ForInStep.yield ((n, c) :: acc))); _) = _
        rw [show cellOf env n = pure c0 by unfold cellOf; rw [hc0]]
        exact e.run
      · rcases e.from' x c e' with q | q
        · exact .inl ⟨q.1, .tail _ q.2⟩
        · rw [List.lookup_cons] at q
          cases hx : x == n with
          | true => rw [hx] at q; cases q; cases eq_of_beq hx; exact .inl ⟨hc0, .head _⟩
          | false => rw [hx] at q; exact .inr q
      · cases hx : x == n with
        | true => exact eq_of_beq hx ▸ e.old n c0 hself
        | false => exact e.old x c (by rw [List.lookup_cons, hx]; exact e')
    · obtain ⟨cl, e⟩ := closure_go r acc hr
      refine ⟨cl, (List.forIn_cons ..).trans ?_, fun x c e' => (e.from' x c e').imp (fun q => ⟨q.1, .tail _ q.2⟩) id, fun x hx => (List.mem_cons.mp hx).elim (fun q => by cases q; exact absurd rfl hk) (e.has x), e.old⟩
      rw [show freeStep env (n, k) acc = pure (ForInStep.yield acc) from if_neg fun q => hk (eq_of_beq q)]
      exact e.run
theorem closure_ok {scope : Scope} {env : Env} (h : ∀ x, (x, NameKind.free) ∈ scope.names → ∃ c, env.cells.lookup x = some c) : ∃ cl, closureFor scope env = pure cl ∧ ClOk env scope.names [] cl :=
  let ⟨cl, e⟩ := closure_go scope.names [] h
  ⟨cl, (bind_pure _).trans e.run, e⟩
noncomputable def relabS (scope outer : Scope) : Scope :=
  { scope with names := scope.names.map fun (n, k) => if (k == .free && outer.kind == .function && outer.names.lookup n == some .cell) then (n, .cell) else (n, k) }
theorem relab_lookup {outer : Scope} (x : Str) : ∀ names : List (Str × NameKind), (names.map fun (n, k) => if (k == NameKind.free && outer.kind == .function && outer.names.lookup n == some .cell) then (n, NameKind.cell) else (n, k)).lookup x =
    (names.lookup x).map fun k => if (k == NameKind.free && outer.kind == .function && outer.names.lookup x == some .cell) then NameKind.cell else k
  | [] => rfl
  | (n, k) :: r => by
    have ih := relab_lookup (outer := outer) x r
    rw [List.map_cons, List.lookup_cons]
    cases hc : (k == NameKind.free && outer.kind == .function && outer.names.lookup n == some .cell)
    all_goals
      cases hx : x == n with
      | true => cases eq_of_beq hx; simp only [hc, List.lookup_cons, BEq.rfl, Bool.false_eq_true, if_true, if_false, Option.map_some]
      | false => simp only [List.lookup_cons, hx, Bool.false_eq_true, if_true, if_false]; exact ih
theorem relab_cases {scope outer : Scope} {x : Str} {k : NameKind} (h : (relabS scope outer).names.lookup x = some k) : scope.names.lookup x = some k ∨ scope.names.lookup x = some .free ∧ k = .cell := by
  have h := (relab_lookup x _).symm.trans h
  obtain ⟨j, e, q⟩ := Option.map_eq_some_iff.mp h
  cases hc : (j == NameKind.free && outer.kind == .function && outer.names.lookup x == some .cell) with
  | true => rw [hc] at q; exact .inr ⟨by rw [Bool.and_eq_true, Bool.and_eq_true] at hc; rw [e, eq_of_beq hc.1.1], q.symm⟩
  | false => rw [hc] at q; exact .inl (e.trans (congrArg _ q))
theorem relab_keep {scope outer : Scope} {x : Str} {k : NameKind} (h : scope.names.lookup x = some k) (hk : (k == .free) = false) : (relabS scope outer).names.lookup x = some k :=
  (relab_lookup x _).trans (by rw [h, Option.map_some, hk]; rfl)
noncomputable def blank (own : List Nat) : Nat → Rho → Rho
  | _, [] => []
  | n, o :: r => (if own.contains n then none else o) :: blank own (n + 1) r
theorem blank_get {own : List Nat} : ∀ (n : Nat) (ρ : Rho) (i : Nat), (blank own n ρ)[i]? = ρ[i]?.map fun o => if own.contains (n + i) then none else o
  | _, [], _ => rfl
  | n, o :: r, 0 => rfl
  | n, o :: r, i + 1 => (blank_get (n + 1) r i).trans (by rw [Nat.add_assoc, Nat.add_comm 1 i]; rfl)
theorem blank_some {own : List Nat} {ρ : Rho} {i : Nat} {d : D} (h : (blank own 0 ρ)[i]? = some (some d)) : ρ[i]? = some (some d) ∧ i ∉ own := by
  rw [blank_get, Nat.zero_add] at h
  obtain ⟨o, e, q⟩ := Option.map_eq_some_iff.mp h
  split at q
  · cases q
  · exact ⟨q ▸ e, fun m => ‹¬ _› (List.contains_iff_mem.mpr m)⟩
noncomputable def nodupB : List Str → Bool
  | [] => true
  | a :: r => !r.contains a && nodupB r
theorem nodupB_ok : ∀ {l : List Str}, nodupB l = true → l.Nodup
  | [], _ => .nil
  | a :: r, h => have h := Bool.and_eq_true_iff.mp h; List.nodup_cons.mpr ⟨(fun m => by rw [List.contains_iff_mem.mpr m] at h; exact nomatch h.1), nodupB_ok h.2⟩
noncomputable def nmB (f : Str → Bool) (own : List Nat) : Nat → List Str → Bool
  | _, [] => true
  | n, x :: r => (own.contains n == f x) && nmB f own (n + 1) r
theorem nmB_ok {f : Str → Bool} {own : List Nat} : ∀ {n : Nat} {l : List Str}, nmB f own n l = true → ∀ i x, l[i]? = some x → own.contains (n + i) = f x
  | _, _ :: _, h, 0, x, e => by cases e; exact eq_of_beq (Bool.and_eq_true_iff.mp h).1
  | n, _ :: _, h, i + 1, x, e => by rw [show n + (i + 1) = n + 1 + i by omega]; exact nmB_ok (Bool.and_eq_true_iff.mp h).2 i x e
noncomputable def ownK (scope : Scope) (x : Str) : Bool := scope.names.lookup x == some .local || scope.names.lookup x == some .cell
noncomputable def compB (f : Fd) (scope : Scope) (own : List Nat) : Bool :=
  scope.kind == .function && nodupB (scope.names.map (·.1)) && (scope.names.all fun p => !(p.2 == .free) || (f.scope.names.lookup p.1 == some .cell || f.scope.names.lookup p.1 == some .free)) && nmB (ownK scope) own 0 f.ns
structure CompOk (f : Fd) (scope : Scope) (own : List Nat) : Prop where
  fn : scope.kind = .function
  nd : ∀ x k, (x, k) ∈ scope.names → scope.names.lookup x = some k
  fre : ∀ x, (x, NameKind.free) ∈ scope.names → f.scope.names.lookup x = some .cell ∨ f.scope.names.lookup x = some .free
  own : ∀ (i : Nat) x, f.ns[i]? = some x → (i ∈ own ↔ scope.names.lookup x = some .local ∨ scope.names.lookup x = some .cell)
theorem lookup_nodup {α : Type} : ∀ {l : List (Str × α)}, (l.map (·.1)).Nodup → ∀ {x k}, (x, k) ∈ l → l.lookup x = some k
  | (y, j) :: r, h, x, k, m => by
    have h := List.nodup_cons.mp h
    rw [List.lookup_cons]
    rcases List.mem_cons.mp m with e | m
    · cases e; rw [BEq.rfl]
    · rw [beq_false_of_ne fun (e : x = y) => h.1 (e ▸ List.mem_map.mpr ⟨_, m, rfl⟩)]; exact lookup_nodup h.2 m
theorem compB_ok {f : Fd} {scope : Scope} {own : List Nat} (h : compB f scope own = true) : CompOk f scope own := by
  have h := Bool.and_eq_true_iff.mp h
  have h1 := Bool.and_eq_true_iff.mp h.1
  have h2 := Bool.and_eq_true_iff.mp h1.1
  refine ⟨eq_of_beq h2.1, fun x k m => lookup_nodup (nodupB_ok h2.2) m, fun x m => ?_, fun i x e => ?_⟩
  · have := Bool.or_eq_true_iff.mp (List.all_eq_true.mp h1.2 _ m)
    exact this.elim (fun q => nomatch q) fun q => (Bool.or_eq_true_iff.mp q).imp eq_of_beq eq_of_beq
  · have := nmB_ok h.2 i x e
    rw [Nat.zero_add] at this
    rw [← List.contains_iff_mem, this]
    exact Bool.or_eq_true_iff.trans (or_congr beq_iff_eq beq_iff_eq)
noncomputable def Ctx.sub (K : Ctx) (scope : Scope) (own : List Nat) (env : Env) : Ctx := ⟨K.C, K.A, K.k, env, ⟨relabS scope K.fd.scope, K.fd.ns, own, []⟩, env.locals :: K.ids⟩
noncomputable def compEnv (scope : Scope) (cl : List (Str × Addr)) (L : Addr) (env : Env) : Env :=
  { newEnv scope L env.globals (cellsFrom (L + 1) scope.names cl) env.qual none .none (some env) builtinsNs with scope := relabel scope env }
theorem comp_frame {K : Ctx} {w : W} {σ : St} {ρ : Rho} {scope : Scope} {own : List Nat} {cl : List (Str × Addr)} (S : CompOk K.fd scope own) (p : Ok K ρ σ w) (cl' : ClOk K.env scope.names [] cl) :
    FrameAt (K.sub scope own (compEnv scope cl w.s.heap.objs.size K.env)) w scope.names cl (blank own 0 ρ) where
  room := p.o.room
  scope := by show relabel scope K.env = relabS scope K.fd.scope; rw [← p.o.scope]; rfl
  kind := S.fn
  glob := p.o.glob
  bi := p.o.bi
  nd := p.o.nd
  loc := rfl
  cells := rfl
  id := .head _
  ids j m := (List.mem_cons.mp m).imp id (p.V.ids j)
  bl i m d e := (blank_some e).2 m
  bt i m := Ctx.tagOf_none rfl
  all i x e h := (S.own i x e).mpr (h.elim (fun h => .inl ((relab_cases (outer := K.env.scope) h).elim id fun q => nomatch q.2)) fun h => .inr (S.nd x _ h))
  own i m x e := ((S.own i x e).mp m).imp (fun h => relab_keep (outer := K.env.scope) h rfl) fun h => ⟨relab_keep (outer := K.env.scope) h rfl, mem_of_lookup h⟩
  has x h := by
    have key : scope.names.lookup x = some .cell ∨ scope.names.lookup x = some .free := h.elim (fun h => (relab_cases (outer := K.env.scope) h).imp id (·.1)) fun h => .inr ((relab_cases (outer := K.env.scope) h).elim id (·.1))
    exact key.imp (fun h => mem_of_lookup h) fun h => cl'.has x (mem_of_lookup h)
  hand x c e := by
    rcases cl'.from' x c e with ⟨e1, m⟩ | q
    · obtain ⟨o, ov, t, z, e2, ne, ht, val, u1⟩ := p.V.cel x c e1
      exact ⟨o, ov, t, z, e2, ht.imp id fun ⟨k, m, q⟩ => ⟨k, .tail _ m, q⟩, fun i d a b => val i d a ((S.fre x m).imp (fun h => (p.o.kd x).trans h) fun h => (p.o.kd x).trans h) (blank_some b).1⟩
    · exact nomatch q
end Mine
end
section
open PySem PySem.W PyProof.Rows
namespace Mine
inductive OutP (C : Cx) (w : W) (σ : St) (G : Addr → W → Prop) : Value → Shared → Prop
  | mk (w' : W) (a : Addr) (x : Step NoF w w') (I : Inv C σ w') (na : NoT w a) (q : G a w') : OutP C w σ G (.ref a) w'.s
noncomputable def TP (K : Ctx) (ρ : Rho) (t : Sem Value) (σ : St) (G : Addr → W → Prop) (σ' : St) : Prop := ∀ ⦃w : W⦄ ⦃E : Value → Shared → Prop⦄, Ok K ρ σ w → wpAny K.C.M K.A t (OutP K.C w σ' G) E w.s
structure Made (C : Cx) (G : Addr → W → Prop) (d : D) (c : AO) : Prop where
  own : ∀ {a w}, G a w → ∃ o, At w (.mu a) a o
  rest : ∀ {a w w'}, G a w → Mono w w' → (∀ o, At w (.mu a) a o → At w' .fz a o) → Rep C w' d (.ref a)
  loc : ∀ {a w w' n}, G a w → Mono w w' → (∀ o, At w (.mu a) a o → At w' (.ob n) a o) → AOk C w' n c a
theorem made_L {C : Cx} {l : List D} : Made C (fun a => GL C a l) (.lst l) (.lst l) :=
  ⟨fun ⟨_, _, z, _⟩ => ⟨_, z⟩, fun ⟨vs, n, z, r⟩ M h => ⟨_, vs, n, h _ z, RepL.mono M _ _ r⟩, fun ⟨vs, n, z, r⟩ M h => ⟨vs, n, h _ z, RepL.mono M _ _ r⟩⟩
theorem made_D {C : Cx} {l : List (Str × D)} : Made C (fun a => GD C a l) (.ds l) (.ds l) :=
  ⟨fun ⟨_, _, _, z, _, _⟩ => ⟨_, z⟩, fun ⟨o, vs, n, z, e, r⟩ M h => ⟨_, o, vs, n, h _ z, e, RepS.mono M _ _ r⟩, fun ⟨o, vs, n, z, e, r⟩ M h => ⟨o, vs, n, h _ z, e, RepS.mono M _ _ r⟩⟩
noncomputable def W.adopt (w : W) (a : Addr) (n : Nat) : W := ⟨w.s, fun b => match w.tag b with | .mu j => if j = a then .ob n else .mu j | t => t, w.mn ++ [a]⟩
section
variable {C : Cx} {w w' : W} {σ σ' : St} {a b : Addr} {n : Nat} {t : Tag} {d : D} {c : AO} {G : Addr → W → Prop} {v : Value} {s : Shared}
theorem adopt_tag (ht : t ≠ .mu a) (h : w.tag b = t) : (w.adopt a n).tag b = t := by
  show (match w.tag b with | .mu j => if j = a then Tag.ob n else .mu j | t => t) = t
  rw [h]
  cases t with
  | mu j => exact if_neg fun (q : j = a) => ht (q ▸ rfl)
  | _ => rfl
theorem adopt_inv (h : (w.adopt a n).tag b = t) : w.tag b = t ∧ t ≠ .mu a ∨ w.tag b = .mu a ∧ t = .ob n := by
  have h : (match w.tag b with | .mu j => if j = a then Tag.ob n else .mu j | t => t) = t := h
  cases q : w.tag b with
  | mu j =>
    rw [q] at h
    by_cases e : j = a
    · exact .inr ⟨e ▸ rfl, ((if_pos e).symm.trans h).symm⟩
    · have h := (if_neg e).symm.trans h
      exact .inl ⟨h, fun k => e (by cases h.trans k; rfl)⟩
  | fz => rw [q] at h; exact .inl ⟨h, fun k => nomatch h.trans k⟩
  | ob m => rw [q] at h; exact .inl ⟨h, fun k => nomatch h.trans k⟩
theorem adopt_mono : Mono w (w.adopt a n) := ⟨fun b o z => ⟨adopt_tag (t := .fz) (fun q => nomatch q) z.tag, z.is⟩, fun n a e => (List.getElem?_append_left (List.getElem?_eq_some_iff.mp e).1).trans e⟩
theorem Inv.adopt (I : Inv C σ w) (M : Made C G d c) (q : G a w) : Inv C (σ ++ [c]) (w.adopt a σ.length) where
  base b o e := adopt_mono.keep b o (I.base b o e)
  dead b e := adopt_tag (t := .fz) (fun q => nomatch q) (I.dead b e)
  own b k e := by
    rcases adopt_inv e with ⟨e1, ne⟩ | ⟨_, e2⟩
    · obtain ⟨o, z⟩ := I.own b k e1; exact ⟨o, adopt_tag ne z.tag, z.is⟩
    · cases e2
  obj b m e := by
    rw [List.length_append]
    rcases adopt_inv e with ⟨e1, _⟩ | ⟨_, e2⟩
    · exact Nat.lt_succ_of_lt (I.obj b m e1)
    · cases e2; exact Nat.lt_succ_self _
  len := by show (w.mn ++ [a]).length = _; rw [List.length_append, List.length_append, I.len]; rfl
  ok j co a' e1 e2 := by
    have e2 : (w.mn ++ [a])[j]? = some a' := e2
    rcases Nat.lt_or_ge j σ.length with q' | q'
    · rw [List.getElem?_append_left q'] at e1
      rw [List.getElem?_append_left (by rw [I.len]; exact q')] at e2
      exact (I.ok j co a' e1 e2).mono adopt_mono fun b o z => ⟨adopt_tag (t := .ob j) (fun q => nomatch q) z.tag, z.is⟩
    · have q₂ := (List.getElem?_eq_some_iff.mp e1).1
      rw [List.length_append] at q₂
      have : j = σ.length := Nat.le_antisymm (Nat.le_of_lt_succ q₂) q'
      subst this
      rw [List.getElem?_append_right (Nat.le_refl _), Nat.sub_self] at e1
      rw [← I.len, List.getElem?_append_right (Nat.le_refl _), Nat.sub_self] at e2
      cases e1; cases e2
      refine M.loc q adopt_mono fun o z => ⟨?_, z.is⟩
      show (match w.tag a with | .mu j => if j = a then Tag.ob σ.length else .mu j | t => t) = _
      rw [z.tag]; exact if_pos rfl
theorem Step.adopt (x : Step NoF w w') (na : NoT w a) : Step NoF w (w'.adopt a n) where
  keep b o z := adopt_mono.keep b o (x.keep b o z)
  main n a e := adopt_mono.main n a (x.main n a e)
  mu k f b o z := ⟨adopt_tag (fun q => by cases q; exact na b z.tag) (x.mu k f b o z).tag, (x.mu k f b o z).is⟩
  rest := x.rest
inductive Cnv (C : Cx) (w w' : W) (a : Addr) (σ : St) (d : D) : Prop
  | mk (w₂ : W) (e : w₂.s = w'.s) (x : Step NoF w w₂) (I : Inv C σ w₂) (r : Rep C w₂ d (.ref a)) (k : ∀ k, k ≠ a → Keeps w' w₂ (.mu k)) : Cnv C w w' a σ d
theorem cnv_loc (M : Made C G d c) (x : Step NoF w w') (I : Inv C σ w') (na : NoT w a) (q : G a w') : Cnv C w w' a (σ ++ [c]) (.loc σ.length) :=
  ⟨w'.adopt a σ.length, rfl, x.adopt na, I.adopt M q, ⟨a, by show (w'.mn ++ [a])[σ.length]? = _; rw [← I.len, List.getElem?_append_right (Nat.le_refl _), Nat.sub_self]; rfl, rfl⟩, fun k n b o z => ⟨adopt_tag (fun e => n (by cases e; rfl)) z.tag, z.is⟩⟩
theorem fin_self (z : w.tag b = .mu a) : (w.fin [a] w.s.heap w.s.toks).tag b = .fz := by
  show (match w.tag b with | .mu j => if j ∈ [a] then Tag.fz else .mu j | t => t) = _
  rw [z]; exact if_pos (.head _)
theorem cnv_rest (M : Made C G d c) (x : Step NoF w w') (I : Inv C σ w') (na : NoT w a) (q : G a w') : Cnv C w w' a σ d :=
  ⟨w'.fin [a] w'.s.heap w'.s.toks, rfl, .fin (F' := NoF) x (fun u0 u0 u0 e => e) (fun u0 => False.elim) fun j m => List.mem_singleton.mp m ▸ na, I.fin fun u0 u0 u0 e => e,
    M.rest q ⟨fin_keep (t := .fz) (fun u0 u0 u0 e => e) (fun u0 u0 e => nomatch e), fun u0 u0 e => e⟩ fun o z => ⟨fin_self z.tag, z.is⟩, fun k n => fin_keep (fun u0 u0 u0 e => e) fun j m e => n (by cases e; exact List.mem_singleton.mp m)⟩
theorem Cnv.out (h : Cnv C w w' a σ d) : Out C w σ d (.ref a) w'.s := let ⟨w₂, e, x, I, r, _⟩ := h; e ▸ ⟨w₂, x, I, r⟩
theorem OutP.loc (M : Made C G d c) : OutP C w σ G v s → Out C w (σ ++ [c]) (.loc σ.length) v s
  | ⟨w', a, x, I', na, q⟩ => (cnv_loc M x I' na q).out
theorem OutP.rest (M : Made C G d c) : OutP C w σ G v s → Out C w σ d v s
  | ⟨w', a, x, I', na, q⟩ => (cnv_rest M x I' na q).out
theorem OutP.after (I : Inv C σ' w) (x : Step NoF w w') : OutP C w' σ G v s → OutP C w σ G v s
  | ⟨w₂, a, y, I', na, q⟩ => ⟨w₂, a, x.trans y, I', na.back I x, q⟩
end
section
variable {K : Ctx} {ρ : Rho} {σ σ' : St} {t : Sem Value} {G : Addr → W → Prop} {d : D} {c : AO}
theorem TP.loc (M : Made K.C G d c) (h : TP K ρ t σ G σ') : TE K ρ t σ (.loc σ'.length) (σ' ++ [c]) := fun u0 u0 p => wpAny_mono (h p) (fun u0 u0 o => o.loc M) fun u0 u0 e => e
theorem TP.rest (M : Made K.C G d c) (h : TP K ρ t σ G σ') : TE K ρ t σ d σ' := fun u0 u0 p => wpAny_mono (h p) (fun u0 u0 o => o.rest M) fun u0 u0 e => e
end
end Mine
end
section
open PySem PySem.W PyProof.Rows
namespace Mine
theorem wp_newFunctionEnv_comp {M : Model} {A : Around} {E : Value → Shared → Prop} {s : Shared} {scope : Scope} {globals : Addr} {cl : List (Str × Addr)} {qual : Str} {outer : Env} {Q : Env → Shared → Prop}
    (hQ : Q (newEnv scope s.heap.objs.size globals (cellsFrom (s.heap.objs.size + 1) scope.names cl) qual none .none (some outer) builtinsNs) { s with heap := pushCells (s.heap.push { cls := .type "dict", data := .dict #[] }) scope.names }) :
    wpAny M A (newFunctionEnv scope globals cl [] qual none .none (some outer)) Q E s := by
  simp only [newFunctionEnv, Option.isSome_some, if_true]
  refine wpAny_bind (wpAny_alloc ?_)
  refine wpAny_bind (wpAny_layCells _ (fun name kind cells => by cases hkc : kind == NameKind.cell <;> simp) _ _ _ _ ?_)
  rw [show ({ s with heap := s.heap.push { cls := .type "dict", data := .dict #[] } } : Shared).heap.objs.size = s.heap.objs.size + 1 from Heap.size_push ..]
  exact wpAny_bind (wpAny_pure (wpAny_pure hQ))
noncomputable def TIn (K : Ctx) (ρ : Rho) (iter target : Expr) (σ : St) {ι : Type} (N : ι → St → Option D → ι → St → Prop) (i : ι) (σ' : St) : Prop := ∀ ⦃w : W⦄ ⦃E : Value → Shared → Prop⦄, Ok K ρ σ w → wpAny K.C.M K.A (eval iter K.env) (fun x s1 => wpAny K.C.M K.A (pyIter x) (IterO K.C K.A target N i w σ') E s1) E w.s
noncomputable abbrev TI (K : Ctx) (ρ : Rho) (iter target : Expr) (σ : St) (ds : List D) (σ' : St) : Prop := TIn K ρ iter target σ Nl ds σ'
theorem TI_of {K : Ctx} {ρ : Rho} {iter target : Expr} {σ σ' : St} {ds : List D} {d : D} (h : TE K ρ (eval iter K.env) σ d σ') (hi : IterOk d ds) : TI K ρ iter target σ ds σ' := fun u0 u0 p =>
  h.go p fun v w' n => wpAny_mono (hi p.o.room.handled n.p.I n.r) (fun u0 u0 o => o.after p.I n.x) fun u0 u0 e => e
inductive EndC (K : Ctx) (w₀ : W) (σ : St) (G : Addr → W → Prop) (L : Addr) (v : Value) : Shared → Prop
  | mk (w' : W) (a : Addr) (x : Step NoF w₀ w') (I : Inv K.C σ w') (e : v = .ref a) (na : NoT w₀ a) (nl : NoT w₀ L) (hne : a ≠ L) (q : G a w') (o : Obj) (es : Array DictEntry) (ep : Nat) (z : At w' (.mu L) L o) (d : o.data = .dict es ep) (sk : StrKeys es) : EndC K w₀ σ G L v w'.s
structure GMk (C : Cx) {γ : Type} (G : Addr → γ → W → Prop) (obj : Obj) (g0 : γ) (newAcc : Sem Value) : Prop where
  alive : obj.isFreed = false
  gat : ∀ a, Gat a (G a)
  ini : ∀ {a w}, a ≠ sysModules → At w (.mu a) a obj → G a g0 w
  acc : ∀ {A : Around} {s : Shared} {Q E}, Q (.ref s.heap.objs.size) { s with heap := s.heap.push obj } → wpAny C.M A newAcc Q E s
theorem mk_L {C : Cx} : GMk C (GL C) (seqObj "list" [] 0) [] (newList []) := ⟨rfl, fun u0 => gat_L, fun u0 z => ⟨[], 0, z, rfl⟩, fun q => wpAny_newObj_type q⟩
theorem dict_new {C : Cx} {w : W} {t : Tag} {a : Addr} {κ : Type} [DecidableEq κ] {knd : KeyKind C.prog C.w κ} (z : At w t a { cls := .type "dict", data := .dict #[] }) : Obj.IsDictOf knd { cls := .type "dict", data := .dict #[] } [] := by
  obtain ⟨o, e, r⟩ := Heap.dictOf_iff.mp (Heap.DictOf.new (knd := knd) w.s.heap)
  cases (Heap.get?_push_size w.s.heap (o := { cls := .type "dict", data := .dict #[] }) rfl).symm.trans e
  exact r
theorem mk_D {C : Cx} : GMk C (GD C) { cls := .type "dict", data := .dict #[] } [] newDict := ⟨rfl, fun u0 => gat_D, fun ne z => ⟨_, [], ne, z, dict_new z, rfl⟩, fun q => wpAny_newObj_type q⟩
theorem sys_ne {C : Cx} {σ : St} {w : W} (I : Inv C σ w) : w.s.heap.objs.size ≠ sysModules := fun q => by
  obtain ⟨o, es, ep, e, u1⟩ := C.glob
  have := Heap.lt_size (I.base _ _ e).is
  rw [q] at this; exact absurd this (by decide)
section
variable {K : Ctx} {ρ ρ' : Rho} {σ σ₁ σ' : St} {w : W} {scope : Scope} {own : List Nat} {γ : Type} {G : Addr → γ → W → Prop} {obj : Obj} {g0 g' : γ} {newAcc : Sem Value} {e target iter elt : Expr} {ifs : List Expr} {act : Addr → Env → Sem Unit} {ds : List D} {it : Value}
theorem comp_core {cl : List (Str × Addr)} {s₂ : Shared} {E : Value → Shared → Prop} (he : isComp e = true) (hg : (clausesOf e)[0]? = some ⟨target, iter, ifs, 0⟩) (S : CompOk K.fd scope own) (cl' : ClOk K.env scope.names [] cl) (g : GMk K.C G obj g0 newAcc)
    (turn : ∀ it a env, compTurn e 0 it (.ref a) env = turnOf target iter ifs (act a env) (.compLoop e 0 it (.ref a) env) it env) (p : Ok K ρ σ w) (hit : IterO K.C K.A target Nl ds w σ₁ it s₂)
    (hr : ∀ a cenv, a ∉ cenv.locals :: K.ids → CRun (K.sub scope own cenv) a (G a) target ifs (act a cenv) (blank own 0 ρ) ds σ₁ g0 σ' g') :
    wpAny K.C.M K.A newAcc (fun acc s₃ => wpAny K.C.M K.A (newFunctionEnv scope K.env.globals cl [] K.env.qual none .none (some K.env)) (fun cenv s₄ =>
      codeAny K.C.M K.A (.compStart e 0 it acc { cenv with scope := relabel scope K.env }) (fun r s' => r = .ok .next ∧ EndC K w σ' (fun a => G a g') cenv.locals acc s') s₄) E s₃) E s₂ := by
  obtain ⟨w2, k, J, x2, I2, X, j, hn, ok, zk⟩ := hit
  refine g.acc (wp_newFunctionEnv_comp ?_)
  obtain ⟨x3, I3⟩ := new_priv (t := w2.s.toks) I2 g.alive
  have za : At (w2.put [w2.s.heap.objs.size] (.mu w2.s.heap.objs.size) (w2.s.heap.push obj) w2.s.toks []) (.mu w2.s.heap.objs.size) w2.s.heap.objs.size obj := ⟨if_pos (.head _), Heap.get?_push_size _ g.alive⟩
  have na := NoT.of I2 (Heap.fresh0 w2.s.heap)
  have ns := sys_ne I2
  generalize w2.s.heap.objs.size = a at x3 I3 za na ns ⊢
  have p3 := p.next (x2.trans x3) I3
  have hs3 : ({ w2.s with heap := w2.s.heap.push obj } : Shared) = (w2.put [a] (.mu a) (w2.s.heap.push obj) w2.s.toks []).s := rfl
  rw [hs3]
  have ak : a ≠ k := fun q => na k (q ▸ zk.tag)
  have ai : ∀ j ∈ K.ids, j ≠ a ∧ j ≠ k := fun j m => ⟨fun q => by obtain ⟨u1, z⟩ := (p.V.stepN p.o x2).ids j m; exact na _ (q ▸ z.tag), fun q => by obtain ⟨u1, z⟩ := p.V.ids j m; exact hn _ (q ▸ z.tag)⟩
  generalize w2.put [a] (.mu a) (w2.s.heap.push obj) w2.s.toks [] = w3 at x3 I3 za p3 ⊢
  have F := comp_frame S p3 cl'
  obtain ⟨w4, hs4, x4, p4⟩ : ∃ w4 : W, w4.s = { w3.s with heap := pushCells (w3.s.heap.push { cls := .type "dict", data := .dict #[] }) scope.names, toks := w3.s.toks } ∧ Step NoF w3 w4 ∧ Ok (K.sub scope own (compEnv scope cl w3.s.heap.objs.size K.env)) (blank own 0 ρ) σ₁ w4 := by
    have := frame_new F I3 (.type "dict") w3.s.toks
    revert this
    generalize ({ w3.s with heap := pushCells (w3.s.heap.push { cls := .type "dict", data := .dict #[] }) scope.names, toks := w3.s.toks } : Shared) = s4
    rintro ⟨w4, x4, p4⟩
    exact ⟨w4, rfl, x4, p4⟩
  have nl := NoT.of I3 (Heap.fresh0 w3.s.heap)
  have la : w3.s.heap.objs.size ≠ a := fun q => nl _ (q ▸ za.tag)
  have lk : w3.s.heap.objs.size ≠ k := fun q => nl _ (q ▸ (x3.mu k id _ _ zk).tag)
  show codeAny K.C.M K.A (.compStart e 0 it (.ref a) (compEnv scope cl w3.s.heap.objs.size K.env)) (fun r s' => r = .ok .next ∧ EndC K w σ' (fun a => G a g') (compEnv scope cl w3.s.heap.objs.size K.env).locals (.ref a) s') { w3.s with heap := pushCells (w3.s.heap.push { cls := .type "dict", data := .dict #[] }) scope.names, toks := w3.s.toks }
  rw [← hs4]
  have hid : ∀ j ∈ w3.s.heap.objs.size :: K.ids, j ≠ k ∧ j ≠ a := fun j m => (List.mem_cons.mp m).elim (fun q => ⟨q ▸ lk, q ▸ la⟩) fun m => ⟨(ai j m).2, (ai j m).1⟩
  have x34 := x3.trans x4
  refine codeAny_compStart_gen he hg (codeAny_mono (comp_loop (K := K.sub scope own (compEnv scope cl w3.s.heap.objs.size K.env)) he (turn _ _ _) X (g.gat a) rfl p4 hid (Ne.symm ak) (X.stable j x34 id) ((g.gat a).go x4.toMono (x4.mu a id) (g.ini ns za)) (hr a _ fun m => (hid a m).2 rfl)) ?_) fun Q E q => X.self (X.stable j x34 id) q
  rintro r s' ⟨rfl, w5, x5, p5, q5⟩
  obtain ⟨o, es, ep, z, d, sk, u1⟩ := p5.V.loc
  exact ⟨rfl, w5, a, ((x2.trans x34).ofN.trans x5).tight fun b q => .inr (q.elim (fun q => q.elim (fun q => q ▸ nl.back p.I (x2.trans x3)) fun q => q ▸ na.back p.I x2) fun q => q ▸ hn), p5.I, rfl, na.back p.I x2, nl.back p.I (x2.trans x3), Ne.symm la, q5, o, es, ep, z, d, sk⟩
end
end Mine
end
section
open PySem PySem.W PyProof.Rows
namespace Mine
section
variable {K : Ctx} {ρ ρ' : Rho} {σ σ₁ σ' σ₂ : St} {w : W} {scope : Scope} {own : List Nat} {γ : Type} {G : Addr → γ → W → Prop} {obj : Obj} {g0 g' : γ} {newAcc : Sem Value} {e target iter elt kx vx : Expr} {ifs : List Expr} {act : Addr → Env → Sem Unit} {ds : List D} {pos : Pos}
theorem fin_letgo {w' : W} {L : Addr} {o : Obj} {h : Heap} (z : At w' (.mu L) L o) (hs : Heap.SameBut L w'.s.heap h) : ∀ b o, (∀ j ∈ [L], w'.tag b ≠ .mu j) → w'.s.heap.get? b = some o → h.get? b = some o :=
  fun b o n e => (hs.2 b fun q => n L (.head _) (q ▸ z.tag)).trans e
theorem EndC.go {L : Addr} {v : Value} {s : Shared} {E : Value → Shared → Prop} {Gf : Addr → W → Prop} (gat : ∀ {a w w'}, Mono w w' → Keeps w w' (.mu a) → Gf a w → Gf a w') : EndC K w σ Gf L v s → compPost K.C.M K.A E none (OutP K.C w σ Gf) v L (.ok .next) s
  | ⟨w', a, x, I, e, na, nl, hne, q, o, es, ep, z, d, sk⟩ => ⟨nsFind es, ⟨o, es, ep, z.is, d, sk, fun u0 => rfl⟩, fun h hs =>
    have hk := fin_letgo z hs
    e ▸ ⟨w'.fin [L] h w'.s.toks, a, .fin (F' := NoF) x hk (fun u0 => False.elim) fun j m => List.mem_singleton.mp m ▸ nl, I.fin hk, na, gat ⟨fin_keep (t := .fz) hk (fun u0 u0 e => nomatch e), fun u0 u0 e => e⟩ (fin_keep hk fun j m e => hne (by cases e; exact List.mem_singleton.mp m)) q⟩⟩
structure Comp (K : Ctx) (ρ : Rho) (e : Expr) (target iter : Expr) (ifs : List Expr) (scope : Scope) (own : List Nat) (act : Addr → Env → Sem Unit) {γ : Type} (G : Addr → γ → W → Prop) (obj : Obj) (g0 : γ) (newAcc : Sem Value) (rest : List Comprehension) : Prop where
  he : isComp e = true
  hc : clausesOf e = ⟨target, iter, ifs, 0⟩ :: rest
  ok : compB K.fd scope own = true
  gm : GMk K.C G obj g0 newAcc
  turn : ∀ it a env, compTurn e 0 it (.ref a) env = turnOf target iter ifs (act a env) (.compLoop e 0 it (.ref a) env) it env
noncomputable def CRuns (K : Ctx) (ρ : Rho) (target : Expr) (ifs : List Expr) (scope : Scope) (own : List Nat) (act : Addr → Env → Sem Unit) {γ : Type} (G : Addr → γ → W → Prop) (ds : List D) (σ₁ : St) (g0 : γ) (σ' : St) (g' : γ) : Prop :=
  ∀ a cenv, a ∉ cenv.locals :: K.ids → CRun (K.sub scope own cenv) a (G a) target ifs (act a cenv) (blank own 0 ρ) ds σ₁ g0 σ' g'
theorem comp_all {rest : List Comprehension} {use : Option (Value → Sem Unit)} {Q : Value → Shared → Prop} {E : Value → Shared → Prop} (c : Comp K ρ e target iter ifs scope own act G obj g0 newAcc rest) (hs : ∀ x, foldedSetIterable iter K.env x = pure x) (hi : TI K ρ iter target σ ds σ₁)
    (hr : CRuns K ρ target ifs scope own act G ds σ₁ g0 σ' g') (p : Ok K ρ σ w) (hq : ∀ v L s', EndC K w σ' (fun a => G a g') L v s' → compPost K.C.M K.A E use Q v L (.ok .next) s') :
    wpAny K.C.M K.A (comprehension e scope K.env pos newAcc false (eval iter K.env) use) Q E w.s := by
  have S := compB_ok c.ok
  obtain ⟨cl, h1, h2⟩ := closure_ok (scope := scope) (env := K.env) fun x m => p.o.has x ((S.fre x m).imp (fun h => (p.o.kd x).trans h) fun h => (p.o.kd x).trans h)
  refine wpAny_comprehension_free (use := use) c.hc hs h1 S.fn (fun x hx hl => S.nd x.1 _ (hl ▸ hx)) (wpAny_mono (hi p) (fun x s₁ h₁ => wpAny_mono h₁ (fun it s₂ h₂ => ?_) fun u0 u0 e => e) fun u0 u0 e => e)
  refine wpAny_mono (comp_core c.he (congrArg (·[0]?) c.hc) S h2 c.gm c.turn p h₂ hr) (fun acc s₃ h => wpAny_mono h (fun cenv s₄ h => codeAny_mono h ?_) fun u0 u0 e => e) fun u0 u0 e => e
  rintro r s' ⟨rfl, h⟩
  exact hq _ _ _ h
theorem comp_l {ρ : Rho} (h : compB K.fd scope own = true) : Comp K ρ (.ListComp elt [⟨target, iter, ifs, 0⟩] scope pos) target iter ifs scope own (fun a env => emitL elt (.ref a) env) (GL K.C) (seqObj "list" [] 0) [] (newList []) [] := ⟨rfl, rfl, h, mk_L, fun u0 u0 u0 => turn_l1⟩
theorem comp_d {ρ : Rho} (h : compB K.fd scope own = true) : Comp K ρ (.DictComp kx vx [⟨target, iter, ifs, 0⟩] scope pos) target iter ifs scope own (fun a env => emitD kx vx a env) (GD K.C) { cls := .type "dict", data := .dict #[] } [] newDict [] := ⟨rfl, rfl, h, mk_D, fun u0 u0 u0 => turn_d1⟩
theorem comp_ll {ρ : Rho} {t2 i2 : Expr} {f2 : List Expr} (h : compB K.fd scope own = true) : Comp K ρ (.ListComp elt [⟨target, iter, ifs, 0⟩, ⟨t2, i2, f2, 0⟩] scope pos) target iter ifs scope own (fun a env => nestOf (.ListComp elt [⟨target, iter, ifs, 0⟩, ⟨t2, i2, f2, 0⟩] scope pos) i2 1 (.ref a) env) (GL K.C) (seqObj "list" [] 0) [] (newList []) [⟨t2, i2, f2, 0⟩] := ⟨rfl, rfl, h, mk_L, fun u0 u0 u0 => turn_l2⟩
theorem TP_lc {rest : List Comprehension} {l : List D} (c : Comp K ρ (.ListComp elt (⟨target, iter, ifs, 0⟩ :: rest) scope pos) target iter ifs scope own act (GL K.C) (seqObj "list" [] 0) [] (newList []) rest) (hi : TI K ρ iter target σ ds σ₁)
    (hr : CRuns K ρ target ifs scope own act (GL K.C) ds σ₁ [] σ' l) (hs : ∀ x, foldedSetIterable iter K.env x = pure x := by exact fun u0 => rfl) : TP K ρ (eval (.ListComp elt (⟨target, iter, ifs, 0⟩ :: rest) scope pos) K.env) σ (fun a => GL K.C a l) σ' := fun u0 u0 p => by
  rw [eval_ListComp]
  exact comp_all c hs hi hr p fun v L s' h => h.go gat_L.go
theorem TP_dc {rest : List Comprehension} {l : List (Str × D)} (c : Comp K ρ (.DictComp kx vx (⟨target, iter, ifs, 0⟩ :: rest) scope pos) target iter ifs scope own act (GD K.C) { cls := .type "dict", data := .dict #[] } [] newDict rest) (hi : TI K ρ iter target σ ds σ₁)
    (hr : CRuns K ρ target ifs scope own act (GD K.C) ds σ₁ [] σ' l) (hs : ∀ x, foldedSetIterable iter K.env x = pure x := by exact fun u0 => rfl) : TP K ρ (eval (.DictComp kx vx (⟨target, iter, ifs, 0⟩ :: rest) scope pos) K.env) σ (fun a => GD K.C a l) σ' := fun u0 u0 p => by
  rw [arm_eval_DictComp]
  exact comp_all c hs hi hr p fun v L s' h => h.go gat_D.go
noncomputable def swB (scope inner : Scope) (y : Str) (a b : Nat) : Bool := scope.kind == .function && scope.names.lookup y == some .local && a == b && !(inner.names.any fun (n, k) => n == y && (k == .local || k == .cell))
theorem swaps {y : Str} {e : Expr} {py : Pos} {m n : Nat} {b : Bool} (o : KOk K) (he : swapsWith e (some (.Name y py)) n K.env = pure (K.env.blockKind == .function && K.env.kindOf y == some .local && py.line == m && !(scope.names.any fun (n, k) => n == y && (k == .local || k == .cell)))) (h : swB K.fd.scope scope y py.line m = b) : swapsWith e (some (.Name y py)) n K.env = pure b := by
  have hb : K.env.blockKind = .function := by unfold Env.blockKind; rw [o.kind]; rfl
  rw [he, hb, o.kd, ← h]
  unfold swB
  rw [← o.scope, o.kind]
theorem EndC.use {L : Addr} {v : Value} {s : Shared} {E : Value → Shared → Prop} {Gf : Addr → W → Prop} {y : Str} {py : Pos} {i : Nat} {d : D} (p : Ok K ρ σ₁ w) (hy : K.ns[i]? = some y) (hm : K.may ρ i = true) (cnv : ∀ a w', Step NoF w w' → Inv K.C σ w' → NoT w a → Gf a w' → Cnv K.C w w' a σ₂ d) : EndC K w σ Gf L v s →
    compPost K.C.M K.A E (some (assign (.Name y py) K.env)) (fun u0 s' => OutS K w σ₂ .next (ρ.set i (some d)) .next s') v L (.ok .next) s
  | ⟨w', a, x, I, e, na, nl, hne, q, o, es, ep, z, dd, sk⟩ => by
    obtain ⟨w₂, e2, x2, I2, r2, k2⟩ := cnv a w' x I na q
    subst e
    show wpAny _ _ (assign (.Name y py) K.env (.ref a)) _ _ w'.s
    rw [← e2]
    refine wpAny_assign_Name (wpAny_mono (store_ok p.o I2 (p.V.stepN p.o x2) hy hm r2) (fun u0 u0 o3 => ?_) fun u0 u0 e => e)
    obtain ⟨w3, x3, I3, V3⟩ := o3
    have hL : ¬ K.own1 L := fun q => by obtain ⟨u1, y⟩ := p.V.ids K.L p.o.id; exact nl _ (q ▸ y.tag)
    have z3 := x3.mu L hL _ _ (k2 L (Ne.symm hne) _ _ z)
    refine ⟨nsFind es, ⟨o, es, ep, z3.is, dd, sk, fun u0 => rfl⟩, fun h hs => ?_⟩
    have hk := fin_letgo z3 hs
    have x4 : Step (· = L) w3 (w3.fin [L] h w3.s.toks) := ⟨⟨fin_keep (t := .fz) hk (fun u0 u0 e => nomatch e), fun u0 u0 e => e⟩, fun b f => fin_keep hk fun j m e => f (by cases e; exact List.mem_singleton.mp m), h, w3.s.toks, rfl⟩
    exact ⟨w3.fin [L] h w3.s.toks, ((x2.ofN.trans x3).weaken fun u0 q => q).fin hk (fun b q => .inl q) fun j m => List.mem_singleton.mp m ▸ nl, I3.fin hk, V3.step p.o x4 fun j m q => by obtain ⟨u1, y⟩ := p.V.ids j m; exact nl _ (q ▸ y.tag), .next⟩
theorem TS_lc {rest : List Comprehension} {l : List D} {y : Str} {py spos : Pos} {i : Nat} {d : D} (c : Comp K ρ (.ListComp elt (⟨target, iter, ifs, 0⟩ :: rest) scope pos) target iter ifs scope own act (GL K.C) (seqObj "list" [] 0) [] (newList []) rest) (hi : TI K ρ iter target σ ds σ₁)
    (hr : CRuns K ρ target ifs scope own act (GL K.C) ds σ₁ [] σ' l) (hw : swB K.fd.scope scope y py.line pos.line = true) (hy : K.ns[i]? = some y) (hm : K.may ρ i = true) (cnv : ∀ a w w', Step NoF w w' → Inv K.C σ' w' → NoT w a → GL K.C a l w' → Cnv K.C w w' a σ₂ d) (hs : ∀ x, foldedSetIterable iter K.env x = pure x := by exact fun u0 => rfl) :
    TS K ρ (exec (.Assign [.Name y py] (.ListComp elt (⟨target, iter, ifs, 0⟩ :: rest) scope pos) spos) K.env) σ .next (ρ.set i (some d)) σ₂ := fun w E p => by
  rw [exec_Assign_Name_used _ _ _ _ (swaps p.o (by rfl) hw)]
  refine wpAny_bind (wpAny_standAt (wpAny_bind ?_))
  show wpAny _ _ (do let _ ← comprehension (.ListComp elt (⟨target, iter, ifs, 0⟩ :: rest) scope pos) scope K.env _ (newList []) false (eval iter K.env) (some (assign (.Name y py) K.env))) _ _ w.s
  exact wpAny_bind (wpAny_mono (comp_all (use := some (assign (.Name y py) K.env)) (Q := fun u0 s' => OutS K w σ₂ .next (ρ.set i (some d)) .next s') c hs hi hr p fun v L s' h => h.use p hy hm fun a w' => cnv a w w') (fun u0 s' hq => wpAny_pure (wpAny_pure hq)) fun u0 u0 e => e)
end
end Mine
end
section
open PySem PySem.W PyProof.Rows
namespace Mine
section
variable {K : Ctx} {ρ ρ' : Rho} {σ σ₁ σ' : St} {ι : Type} {N : ι → St → Option D → ι → St → Prop} {i : ι} {target iter : Expr} {body els : List Stmt} {pos : Pos} {n : Nat} {fl : Fl} {w w' : W} {d : D} {v : Value}
theorem TS_for (hi : TIn K ρ iter target σ N i σ₁) (r : Run K N target body els n i ρ σ₁ fl ρ' σ') (hs : ∀ x, foldedSetIterable iter K.env x = pure x := by exact fun u0 => rfl) : TS K ρ (exec (.For target iter body els pos) K.env) σ fl ρ' σ' := fun u0 u0 p =>
  wpAny_For (wpAny_mono (hi p) (fun x s1 h1 => wpAny_mono h1 (fun it s2 h2 => by
    obtain ⟨w2, k, J, x2, I2, X, j, hn, hl⟩ := h2
    exact codeAny_mono (run_loop X.toItrL p hn x2 I2 j r) (by rintro r s' ⟨f, rfl, o⟩; exact o)) fun u0 u0 e => e) fun u0 u0 e => e) hs
inductive Nv (m : Nat) : Nat → St → Option D → Nat → St → Prop
  | some {i : Nat} {σ : St} {l : List D} {d : D} (h : σ[m]? = some (.lst l)) (e : l[i]? = some d) : Nv m i σ (some d) (i + 1) σ
  | none {i : Nat} {σ : St} {l : List D} (h : σ[m]? = some (.lst l)) (e : l[i]? = none) : Nv m i σ none i σ
inductive JV (m : Nat) (k : Addr) (i : Nat) (w : W) : Prop
  | mk (a : Addr) (o : Obj) (z : At w (.mu k) k o) (c : o.cls = .type "list_iterator") (d : o.data = .fields #[.ref a, .int i 0]) (e : w.mn[m]? = some a) : JV m k i w
theorem itr_live {C : Cx} {A : Around} {k : Addr} {m : Nat} (hA : A.handled = none) : Itr C A target (.ref k) k (JV m k) (Nv m) where
  stable := fun ⟨a, o, z, c, d, e⟩ x nf => ⟨a, o, x.mu k nf _ _ z, c, d, x.main _ _ e⟩
  item := by
    rintro i σ w d i' σ' E I ⟨a, o, z, c, dd, e⟩ nv
    cases nv with
    | some h e' =>
      obtain ⟨vs, q, z2, r⟩ := I.ok _ _ _ h e
      obtain ⟨v, h3, h4⟩ := r.get e'
      refine wpAny_pyNext_list_item ⟨o, z.is, c, dd⟩ (items := vs.toArray) ⟨_, z2.is, rfl, q, rfl⟩ (List.getElem?_toArray.trans h3) fun h' hit hs => ⟨v, rfl, ?_⟩
      obtain ⟨o', e1, c1, d1⟩ := hit
      have hk : ∀ b o, w.tag b ≠ .mu k → w.s.heap.get? b = some o → h'.get? b = some o := fun b o n e => (hs.2 b fun q => n (q ▸ z.tag)).trans e
      have x : Step (· = k) w (w.put [] .fz h' w.s.toks []) := .priv hk
      refine go_of (T := "list_iterator") e1 c1 (by decide) ⟨_, x, I.priv hk fun b q ⟨o, y⟩ => ?_, ⟨a, o', ⟨z.tag, e1⟩, c1, d1, x.main _ _ e⟩, x.rep h4⟩
      by_cases n : b = k
      · exact ⟨o', n ▸ e1⟩
      · exact ⟨o, (hs.2 b n).trans y⟩
  done := by
    rintro i σ w i' σ' E I ⟨a, o, z, c, dd, e⟩ nv
    cases nv with
    | none h e' =>
      obtain ⟨vs, q, z2, r⟩ := I.ok _ _ _ h e
      refine wpAny_pyNext_list_end hA ⟨o, z.is, c, dd⟩ (items := vs.toArray) ⟨_, z2.is, rfl, q, rfl⟩ (List.getElem?_toArray.trans (List.getElem?_eq_none_iff.mpr (by rw [r.length]; exact List.getElem?_eq_none_iff.mp e'))) fun h' he => ⟨rfl, w, h', w.s.toks, .refl _ _, I, fun b o n e => he b o (fun q => n k (.head _) (q ▸ z.tag)) e⟩
  self := fun ⟨a, o, z, c, dd, e⟩ q => wpAny_pyIter_slot (T := "list_iterator") ⟨_, z.is, c⟩ slot_listiter_iter (wpAny_call_entry slot_listiter_iter ⟨_, z.is, c⟩ entry_listiter_iter (wpAny_pure ⟨_, rfl, _, _, ⟨_, z.is, c⟩, slot_listiter_next.lookup, q⟩) (args_listiter_iter _))
theorem TI_live {m : Nat} {l : List D} (h : TE K ρ (eval iter K.env) σ (.loc m) σ₁) (hl : σ₁[m]? = some (.lst l)) : TIn K ρ iter target σ (Nv m) 0 σ₁ := fun u0 u0 p =>
  h.go p fun v w1 n1 => by
    obtain ⟨a, e, e'⟩ := n1.r
    subst e'
    obtain ⟨vs, q, z, r⟩ := n1.p.I.ok _ _ _ hl e
    refine wpAny_pyIter_list (items := vs.toArray) ⟨_, z.is, rfl, q, rfl⟩ ?_
    obtain ⟨x2, I2⟩ := new_priv (o := { cls := .type "list_iterator", data := .fields #[.ref a, .int 0 0] }) (t := w1.s.toks) n1.p.I rfl
    have zk : At (w1.put [w1.s.heap.objs.size] (.mu w1.s.heap.objs.size) (w1.s.heap.push { cls := .type "list_iterator", data := .fields #[.ref a, .int 0 0] }) w1.s.toks []) (.mu w1.s.heap.objs.size) w1.s.heap.objs.size _ := ⟨if_pos (.head _), Heap.get?_push_size _ rfl⟩
    exact ⟨_, _, _, n1.x.trans x2, I2, itr_live p.o.room.handled, ⟨a, _, zk, rfl, rfl, x2.main _ _ e⟩, (NoT.of n1.p.I (Heap.fresh0 _)).back p.I n1.x, ⟨_, zk⟩⟩
end
end Mine
end
section
open PySem PySem.W PyProof.Rows
namespace Mine
inductive Upd (C : Cx) (σ : St) (w : W) (n : Nat) (co : AO) : Shared → Prop
  | mk (w' : W) (x : Step NoF w w') (I : Inv C (σ.set n co) w') : Upd C σ w n co w'.s
section
variable {C : Cx} {σ σ' : St} {w w' : W} {n : Nat} {co : AO} {a : Addr} {o o' : Obj} {h : Heap} {t : Tok}
theorem ob_upd (I : Inv C σ w) (z : At w (.ob n) a o) (e : h.get? a = some o') (hs : ∀ b o, b ≠ a → w.s.heap.get? b = some o → h.get? b = some o) (ok : Mono w (w.put [] .fz h t []) → ∀ a', w.mn[n]? = some a' → AOk C (w.put [] .fz h t []) n co a') : Upd C σ w n co { w.s with heap := h, toks := t } := by
  have hk : ∀ b o, w.tag b ≠ .ob n → w.s.heap.get? b = some o → h.get? b = some o := fun b o m e => hs b o (fun q => m (q ▸ z.tag)) e
  have c : Chg (· = .ob n) w (w.put [] .fz h t []) := .put fun t m b o z => ⟨List.not_mem_nil, hk b o (fun q => m (z.tag.symm.trans q)) z.is⟩
  have x : Step NoF w (w.put [] .fz h t []) := c.step (fun q => nomatch q) fun u0 q => nomatch q
  exact ⟨_, x, I.set c (fun u0 m => nomatch m) (fun b ⟨o, e'⟩ => by
    by_cases q : b = a
    · exact ⟨o', q ▸ e⟩
    · exact ⟨o, hs b o q e'⟩) (fun u0 m => nomatch m) (ok x.toMono)⟩
theorem Upd.out {d : D} {v : Value} (r : Rep C w d v) {s : Shared} : Upd C σ w n co s → Out C w (σ.set n co) d v s
  | ⟨w₂, x, I⟩ => ⟨w₂, x, I, x.rep r⟩
theorem lst_upd {l' : List D} {vs' : List Value} {k' : Nat} (I : Inv C σ w) (z : At w (.ob n) a o) (em : w.mn[n]? = some a) (hs : Heap.SameBut a w.s.heap h) (e : h.get? a = some (seqObj "list" vs' k')) (r : RepL C w l' vs') : Upd C σ w n (.lst l') { w.s with heap := h, toks := t } :=
  ob_upd I z e (fun b o q e => (hs.2 b q).trans e) fun M a' q => by cases em.symm.trans q; exact ⟨vs', k', ⟨z.tag, e⟩, RepL.mono M _ _ r⟩
theorem ds_upd {l' : List (Str × D)} {kvs' : List (Str × Value)} (I : Inv C σ w) (z : At w (.ob n) a o) (em : w.mn[n]? = some a) (ne : a ≠ sysModules) (hs : Heap.SameBut a w.s.heap h) (e : h.DictOf (strKind C.prog C.w) a kvs') (r : RepS C w l' kvs') : Upd C σ w n (.ds l') { w.s with heap := h, toks := t } := by
  obtain ⟨o', e', d⟩ := Heap.dictOf_iff.mp e
  exact ob_upd I z e' (fun b o q e => (hs.2 b q).trans e) fun M a' q => by cases em.symm.trans q; exact ⟨o', kvs', ne, ⟨z.tag, e'⟩, d, RepS.mono M _ _ r⟩
inductive IsOb (w : W) (n : Nat) (P : Addr → Prop) : Value → Prop
  | mk (a : Addr) (e : w.mn[n]? = some a) (p : P a) : IsOb w n P (.ref a)
theorem ob_at {v : Value} (I : Inv C σ w) (hn : σ[n]? = some co) (r : Rep C w (.loc n) v) : IsOb w n (AOk C w n co) v := let ⟨a, e, q⟩ := r; q ▸ ⟨a, e, I.ok _ _ _ hn e⟩
noncomputable def IBinOk (op : Operator) (a b d : D) : Prop := ∀ ⦃C : Cx⦄ ⦃A : Around⦄ ⦃σ : St⦄ ⦃w : W⦄ ⦃va vb : Value⦄ ⦃E : Value → Shared → Prop⦄, Inv C σ w → Rep C w a va → Rep C w b vb → wpAny C.M A (inplaceOp op va vb) (Out C w σ d) E w.s
section
variable {i j : Int} {x y : Str}
theorem ibin_add : IBinOk .Add (.int i) (.int j) (.int (i + j)) := fun u0 u0 u0 u0 u0 u0 u0 I ⟨_, e⟩ ⟨_, e'⟩ => by subst e e'; exact PyProof.Rows.iadd_int (out_int I _ _ _)
theorem ibin_shl (h : i.natAbs < 2 ^ 63) (h0 : 0 ≤ j) (h1 : j ≤ 1000) : IBinOk .LShift (.int i) (.int j) (.int (i * 2 ^ j.toNat)) := fun u0 u0 u0 u0 u0 u0 u0 I ⟨_, e⟩ ⟨_, e'⟩ => by
  subst e e'
  have := intBits_le_64 (k := i) (by omega) (by omega)
  exact PyProof.Rows.ilshift_int h0 (by omega) (out_int I _ _ _)
theorem ibin_or : IBinOk .BitOr (.int i) (.int j) (.int (Builtin.bitOr i j)) := fun u0 u0 u0 u0 u0 u0 u0 I ⟨_, e⟩ ⟨_, e'⟩ => by subst e e'; exact PyProof.Rows.ior_int (out_int I _ _ _)
theorem ibin_xor : IBinOk .BitXor (.int i) (.int j) (.int (Builtin.bitXor i j)) := fun u0 u0 u0 u0 u0 u0 u0 I ⟨_, e⟩ ⟨_, e'⟩ => by subst e e'; exact PyProof.Rows.ixor_int (out_int I _ _ _)
theorem ibin_adds (h : x.length + y.length ≤ 16777216) : IBinOk .Add (.str x) (.str y) (.str (x ++ y)) := fun u0 u0 u0 u0 u0 u0 u0 I ⟨_, e⟩ ⟨_, e'⟩ => by subst e e'; exact PyProof.Rows.iadd_str (fun u0 u0 => out_str I _ _ _) (by rw [sizeLine_is]; exact h)
end
theorem list_iadd_seq : isSeqSlot (some (.builtin "list.__iadd__")) = true := by decide +kernel
theorem iadd_list {prog : Program} {wd : World} {A : Around} {E : Value → Shared → Prop} {s : Shared} {l b : Addr} {items items2 : Array Value} {n n2 : Nat} {Q : Value → Shared → Prop} (hl : PySem.IsL s.heap l items n) (hb : PySem.IsL s.heap b items2 n2) (hsz : items.size + items2.size ≤ 1000000)
    (h : Q (.ref l) { s with heap := s.heap.update l (Obj.mapSeq fun x => x ++ items2) }) : wpAny (model prog wd) A (inplaceOp .Add (.ref l) (.ref b)) Q E s := by
  unfold inplaceOp
  refine wpAny_holding ?_
  have lk : typeLookup (.type "list") (dunderI "add") = pure (some (.builtin "list.__iadd__")) := PySem.F.slot_list_iadd.lookup
  have hfi : fillsInplaceSlot (.type "list") "add" (Operator.Add == .Add) = pure false := by
    unfold fillsInplaceSlot
    show (typeLookup (.type "list") (dunderI "add") >>= fun fi => pure (fi.isSome && !isSeqSlot fi)) = pure false
    rw [lk]; simp only [pure_bind, list_iadd_seq]; rfl
  have ta : s.TypeIs (.ref l) "list" := ⟨_, hl, rfl⟩
  have tb : s.TypeIs (.ref b) "list" := ⟨_, hb, rfl⟩
  refine wpAny_bind (wpAny_typeOf ta (wpAny_bind (wpAny_of_eq hfi ?_)))
  show wpAny (model prog wd) A (if false = true then _ else _) Q E s
  rw [if_neg Bool.false_ne_true]
  refine wpAny_bind (wpAny_binaryOp1_none (nm := "add") ta tb noFill_list_add ?_)
  refine wpAny_bind (wpAny_of_eq (PySem.seqSlot_of lk list_iadd_seq) ?_)
  refine wpAny_bind (wpAny_rule (call_meets PySem.F.slot_list_iadd ta PySem.F.entry_list_iadd (PySem.F.args_list_iadd_2 _ _) (AutoSeq1.list___iadd___list_list_0 l items n b items2 n2 ?_ (by rw [sizeLine_is]; omega) (by rw [sizeLine_is]; omega)) ⟨hl, hb, h⟩))
  have : Builtin.List.listTooLong (items.size + items2.size) = false := by
    unfold Builtin.List.listTooLong
    exact decide_eq_false (by rw [sizeLine_is]; omega)
  rw [this, Bool.and_false]; exact Bool.false_ne_true
end
section
variable {K : Ctx} {ρ : Rho} {σ σ₁ σ₂ σ₃ : St} {w w' : W} {a b d : D} {n i : Nat} {o e ie : Expr} {p pos : Pos} {x : Str} {op : Operator} {co : AO}
theorem Upd.stmt (q : Ok K ρ σ' w) (y : Step NoF w w') {s : Shared} : Upd K.C σ₁ w' n co s → OutS K w (σ₁.set n co) .next ρ .next s
  | ⟨w₂, z, I⟩ => ⟨w₂, (y.trans z).ofN, I, q.V.stepN q.o (y.trans z), .next⟩
theorem TS_seti {k : Str} {l : List (Str × D)} (he : TE K ρ (eval e K.env) σ d σ₁) (ho : TE K ρ (eval o K.env) σ₁ (.loc n) σ₂) (hi : TE K ρ (eval ie K.env) σ₂ (.str k) σ₃) (hn : σ₃[n]? = some (.ds l)) (hz : l.length ≤ 1000000) (hs : swapsWith e (some (.Subscript o ie p)) pos.line K.env = pure false := by rfl) :
    TS K ρ (exec (.Assign [.Subscript o ie p] e pos) K.env) σ .next ρ (σ₃.set n (.ds (kset l k d))) := fun u0 u0 q =>
  wpAny_Assign_Subscript (he.go q fun v w1 n1 => ho.go n1.p fun vo w2 n2 => hi.go n2.p fun vi w3 n3 => by
    obtain ⟨aa, em, ob, kvs, ne, z, dd, r⟩ := ob_at n3.p.I hn (n3.x.rep n2.r)
    obtain ⟨t, e'⟩ := n3.r
    subst e'
    exact wpAny_setItem_pairs (knd := strKind K.C.prog K.C.w) (k := k) (strKind_is _ _ _ _) (ds_mapOf z dd) (fun h' hd hs => (ds_upd n3.p.I z em ne hs hd (by rw [repS_K]; exact repK_stored (repS_K l ▸ r) (isDictOf_nodup dd) ((n2.x.trans n3.x).rep n1.r))).stmt q ((n1.x.trans n2.x).trans n3.x)) (by rw [sizeLine_is, repK_len (repS_K l ▸ r)]; exact Nat.le_trans hz (by decide))) hs
theorem Fd.var_ok (o : KOk K) (h : K.fd.var i x = true) : K.ns[i]? = some x ∧ (K.env.kindOf x = some .local ∨ K.Cl x) ∧ (x == ("__classdict__" : Str)) = false := by
  unfold Fd.var at h
  rw [Bool.and_eq_true, Bool.and_eq_true, Bool.and_eq_true, Bool.or_eq_true, Bool.or_eq_true, Bool.not_eq_true', Bool.not_eq_true', beq_iff_eq, beq_iff_eq, beq_iff_eq, beq_iff_eq, ← o.kd, or_assoc] at h
  exact ⟨h.1.1.1, h.1.1.2, h.1.2⟩
theorem TS_aug (hx : K.fd.var i x = true) (hr : ρ[i]? = some (some a)) (he : TE K ρ (eval e K.env) σ b σ₁) (h : IBinOk op a b d) (hm : K.may ρ i = true) : TS K ρ (exec (.AugAssign (.Name x p) op e pos) K.env) σ .next (ρ.set i (some d)) σ₁ := fun u0 u0 q =>
  have hv := Fd.var_ok q.o hx
  wpAny_AugAssign_Name (load_ok q.o q.V hv.1 hv.2.1 hv.2.2 hr fun va ra => he.go q fun vb w1 n1 => wpAny_mono (h n1.p.I (n1.x.rep ra) n1.r) (fun v u0 ⟨w2, x2, I2, r2⟩ =>
    wpAny_mono (store_ok n1.p.o I2 (n1.p.V.stepN n1.p.o x2) hv.1 hm r2) (fun u0 u0 o => o.next (n1.x.trans x2)) fun u0 u0 e => e) fun u0 u0 e => e)
theorem isL_update {h : Heap} {aa : Addr} {vs ws : List Value} {kk : Nat} {f : Array Value → Array Value} (e : h.get? aa = some (seqObj "list" vs kk)) (hf : f vs.toArray = ws.toArray) : ∃ k', (h.update aa (Obj.mapSeq f)).get? aa = some (seqObj "list" ws k') := by
  have := PySem.IsL.update (f := f) (show PySem.IsL h aa vs.toArray kk from e)
  rw [hf] at this
  exact ⟨_, this⟩
theorem TS_augl {l m : List D} (hx : K.fd.var i x = true) (hr : ρ[i]? = some (some (.loc n))) (he : TE K ρ (eval e K.env) σ (.lst m) σ₁) (hn : σ₁[n]? = some (.lst l)) (hz : l.length + m.length ≤ 1000000) (hm : K.may ρ i = true) :
    TS K ρ (exec (.AugAssign (.Name x p) .Add e pos) K.env) σ .next (ρ.set i (some (.loc n))) (σ₁.set n (.lst (l ++ m))) := fun u0 u0 q =>
  have hv := Fd.var_ok q.o hx
  wpAny_AugAssign_Name (load_ok q.o q.V hv.1 hv.2.1 hv.2.2 hr fun va ra => he.go q fun vb w1 n1 => by
    have ra := n1.x.rep ra
    obtain ⟨aa, em, vs, k, z, r⟩ := ob_at n1.p.I hn ra
    obtain ⟨u1, ws, k', z', r'⟩ := n1.r
    refine iadd_list (items := vs.toArray) (items2 := ws.toArray) z.is z'.is (by rw [List.size_toArray, List.size_toArray, r.length, r'.length]; exact hz) ?_
    obtain ⟨k₂, e₂⟩ := isL_update (ws := vs ++ ws) (f := fun x => x ++ ws.toArray) z.is (List.append_toArray ..)
    have u := lst_upd (t := w1.s.toks) n1.p.I z em (Heap.SameBut.update ..) e₂ (r.append r')
    revert u
    generalize ({ w1.s with heap := w1.s.heap.update aa (Obj.mapSeq fun x => x ++ ws.toArray), toks := w1.s.toks } : Shared) = s2
    rintro ⟨w2, x2, I2⟩
    exact wpAny_mono (store_ok n1.p.o I2 (n1.p.V.stepN n1.p.o x2) hv.1 hm (x2.rep ra)) (fun u0 u0 o => o.next (n1.x.trans x2)) fun u0 u0 e => e)
theorem TS_augi {k : Str} {l l' : List (Str × D)} (ho : TE K ρ (eval o K.env) σ (.loc n) σ₁) (hi : TE K ρ (eval ie K.env) σ₁ (.str k) σ₂) (hn : σ₂[n]? = some (.ds l)) (ha : kget l k = some a) (he : TE K ρ (eval e K.env) σ₂ b σ₃) (h : IBinOk op a b d) (hn' : σ₃[n]? = some (.ds l')) (hz : l'.length ≤ 1000000)
    (hst : ∀ ov iv new, augStore ie ov iv new = (do holding [new, ov, iv] (setItem ov iv new); release [new, ov, iv] []; pure .next) := by intros; rfl) : TS K ρ (exec (.AugAssign (.Subscript o ie p) op e pos) K.env) σ .next ρ (σ₃.set n (.ds (kset l' k d))) := fun u0 u0 q =>
  wpAny_AugAssign_Subscript_any (ho.go q fun vo w1 n1 => hi.go n1.p fun vi w2 n2 => by
    have ro := n2.x.rep n1.r
    obtain ⟨aa, em, ob, kvs, ne, z, dd, r⟩ := ob_at n2.p.I hn ro
    obtain ⟨t, e'⟩ := n2.r
    subst e'
    rcases kget_K k (repS_K l ▸ r) with ⟨e1, _⟩ | ⟨_, v, e1, e2, rv⟩
    · exact nomatch ha.symm.trans e1
    cases ha.symm.trans e1
    have ox := out_rep (t := w2.s.toks + 1) n2.p.I rv
    refine wpAny_getItem_of (strKind_is _ _ _ _) (ds_mapOf z dd).mapOf e2 ?_
    revert ox
    generalize ({ w2.s with toks := w2.s.toks + 1 } : Shared) = s3
    rintro ⟨w3, x3, I3, r3⟩
    exact he.go (n2.p.next x3 I3) fun vb w4 n4 => wpAny_mono (h n4.p.I (n4.x.rep r3) n4.r) (fun vn u0 ⟨w5, x5, I5, r5⟩ => by
      have x35 := (x3.trans n4.x).trans x5
      obtain ⟨a', em', ob', kvs', ne', z', dd', r'⟩ := ob_at I5 hn' (x35.rep ro)
      exact wpAny_setItem_pairs (knd := strKind K.C.prog K.C.w) (k := k) (strKind_is _ _ _ _) (ds_mapOf z' dd') (fun h' hd hs => (ds_upd I5 z' em' ne' hs hd (by rw [repS_K]; exact repK_stored (repS_K l' ▸ r') (isDictOf_nodup dd') r5)).stmt q ((n1.x.trans n2.x).trans x35)) (by rw [sizeLine_is, repK_len (repS_K l' ▸ r')]; exact Nat.le_trans hz (by decide))) fun u0 u0 e => e) hst
end
end Mine
end
section
open PySem PySem.W PyProof.Rows
namespace Mine
structure InsFacts (C : Cx) (c : Addr) (a : Str) : Prop where
  hga : findIn C.K (.ref c) "__getattribute__" = some (some (.builtin "object.__getattribute__"))
  has : hasDictIn C.K c = true
  attr : ∃ r, findIn C.K (.ref c) a = some r ∧ noGet C.K r = true
  hsa : findIn C.K (.ref c) "__setattr__" = some (some (.builtin "object.__setattr__"))
  over : plainOver C.K c = true
  taker : takerIn C.K c a = some none
theorem Inv.inK {C : Cx} {σ : St} {w : W} (I : Inv C σ w) : C.K.In w.s.heap := C.inK.keeps fun b o e => (I.base b o e).is
section
variable {C : Cx} {w w' : W} {σ : St} {name : Str} {d : D} {v u : Value} {fs : List (Str × D)} {es : List DictEntry} {A : Around} {n : Nat} {c : Addr} {E : Value → Shared → Prop}
theorem isStr_self {t : Tok} : (Value.str name t).isStr name = true := decide_eq_true rfl
theorem isStr_ne {j : Str} {t : Tok} (q : j ≠ name) : (Value.str j t).isStr name = false := decide_eq_false q
theorem repE_find : ∀ {fs : List (Str × D)} {es : List DictEntry}, RepE C w fs es → (kget fs name = none ∧ es.find? (·.key.isStr name) = none) ∨ ∃ d e, kget fs name = some d ∧ es.find? (·.key.isStr name) = some e ∧ Rep C w d e.val
  | [], _, r => by cases r; exact .inl ⟨rfl, rfl⟩
  | (j, d) :: l, _, ⟨e, r', ⟨hash, t, v, q, a⟩, b⟩ => by
    subst q
    rw [List.find?_cons]
    show ((if j = name then some d else kget l name) = none ∧ _) ∨ ∃ d' e', (if j = name then some d else kget l name) = some d' ∧ _
    by_cases q : j = name
    · subst q; rw [if_pos rfl, isStr_self]; exact .inr ⟨d, _, rfl, rfl, a⟩
    · rw [if_neg q, isStr_ne q]; exact repE_find b
theorem repE_noRef : ∀ {fs : List (Str × D)} {es : List DictEntry}, RepE C w fs es → es.any (·.refKey) = false
  | [], _, r => by cases r; rfl
  | (j, d) :: l, _, ⟨e, r', ⟨hash, t, v, q, a⟩, b⟩ => by subst q; rw [List.any_cons, repE_noRef b]; rfl
theorem repE_len : ∀ {fs : List (Str × D)} {es : List DictEntry}, RepE C w fs es → es.length = fs.length
  | [], _, r => by cases r; rfl
  | (j, d) :: l, _, ⟨e, r', _, b⟩ => congrArg (· + 1) (repE_len b)
theorem repE_look {k : Nat} (r : RepE C w fs es) : (kget fs name = none ∧ lookIn name (dictOf es k) = some none) ∨ ∃ d v, kget fs name = some d ∧ lookIn name (dictOf es k) = some (some v) ∧ Rep C w d v := by
  rw [lookIn_dict]
  unfold getL
  rcases repE_find (name := name) r with ⟨e1, e2⟩ | ⟨d, e, e1, e2, q⟩
  · exact .inl ⟨e1, by rw [e2, repE_noRef r]; rfl⟩
  · exact .inr ⟨d, e.val, e1, by rw [e2], q⟩
theorem repE_put {hash : Int} {t : Tok} : ∀ {fs : List (Str × D)} {es : List DictEntry}, RepE C w fs es → Rep C w d v → RepE C w (kset fs name d) (putL name hash (.str name t) v es)
  | [], _, r, a => by cases r; exact ⟨_, [], ⟨hash, t, v, rfl, a⟩, rfl⟩
  | (j, x) :: l, _, ⟨e, r', ⟨hash', t', v', q', b⟩, c⟩, a => by
    subst q'
    show RepE C w (if j = name then (j, d) :: l else (j, x) :: kset l name d) _
    rw [putL]
    by_cases q : j = name
    · subst q; rw [if_pos rfl, if_pos isStr_self]; exact ⟨_, r', ⟨hash', t', v, rfl, a⟩, c⟩
    · rw [if_neg q, if_neg (ne_true_of_eq_false (isStr_ne q))]; exact ⟨_, _, ⟨hash', t', v', rfl, b⟩, repE_put c a⟩
theorem rep_handed : ∀ {d : D} {v : Value}, Rep C w d v → handedIn v = true
  | .none, _, r => by cases r; rfl
  | .bool _, _, r => by cases r; rfl
  | .int _, _, ⟨_, e⟩ => e ▸ rfl
  | .str _, _, ⟨_, e⟩ => e ▸ rfl
  | .tup _, _, ⟨_, _⟩ => rfl
  | .lst _, _, ⟨_, _⟩ => rfl
  | .ds _, _, ⟨_, _⟩ => rfl
  | .di _, _, ⟨_, _⟩ => rfl
  | .loc _, _, ⟨_, _, e⟩ => e ▸ rfl
  | .lam _ _, _, ⟨_, _⟩ => rfl
theorem instAt {h : Heap} {x dx c : Addr} {es : List DictEntry} {n : Nat} (e4 : h.get? x = some (instObj c dx)) (e5 : h.get? dx = some (dictOf es n)) : InstAt h x (instObj c dx) c (some (dictOf es n)) := ⟨e4, rfl, rfl, e5⟩
theorem getattr_ok {expr : Bool} (Fa : InsFacts C c name) (I : Inv C σ w) (hn : σ[n]? = some (.ins c fs)) (hd : kget fs name = some d) (r : Rep C w (.loc n) v) : wpAny C.M A (getAttr v name expr) (fun u => OnV C d w u) E w.s := by
  obtain ⟨x, em, dx, es, k, z, zd, q⟩ := ob_at I hn r
  rcases repE_look (name := name) (k := k) q with ⟨e1, _⟩ | ⟨_, u, e1, e2, ru⟩
  · exact nomatch hd.symm.trans e1
  cases hd.symm.trans e1
  obtain ⟨ra, a1, a2⟩ := Fa.attr
  exact get_value I.inK (instAt z.is zd.is) Fa.hga (findObj_own Fa.has a1 a2 e2) (rep_handed ru) ⟨_, ru⟩
theorem kset_len {κ : Type} [DecidableEq κ] : ∀ (l : List (κ × D)) (k : κ) (d : D), (kset l k d).length ≤ l.length + 1
  | [], k, d => Nat.le_refl _
  | (j, x) :: l, k, d => by
    show (if j = k then (j, d) :: l else (j, x) :: kset l k d).length ≤ _
    split
    · exact Nat.le_succ _
    · exact Nat.succ_le_succ (kset_len l k d)
theorem setattr_ok (Fa : InsFacts C c name) (I : Inv C σ w) (hn : σ[n]? = some (.ins c fs)) (hz : fs.length ≤ 100) (r : Rep C w (.loc n) v) (ru : Rep C w d u) : wpAny C.M A (setAttr v name u) (fun u0 => Upd C σ w n (.ins c (kset fs name d))) E w.s := by
  obtain ⟨x, em, dx, es, k, z, zd, q⟩ := ob_at I hn r
  have hxd : x ≠ dx := fun q => by have := z.is; rw [q, zd.is] at this; cases this
  refine set_plain I.inK (instAt z.is zd.is) Fa.hsa ?_
  have X1 : C.K.In ({ w.s with toks := w.s.toks + 1 } : Shared).heap := I.inK
  refine osa_open (s := { w.s with toks := w.s.toks + 1 }) X1 (instAt z.is zd.is) Fa.over Fa.taker fun b => ?_
  obtain ⟨cd, hc, hd'⟩ := any_some Fa.has
  have hno := repE_noRef q
  refine wpAny_bind (wpAny_pure (wpAny_bind (wpAny_bind (wpAny_loadPart z.is (wpAny_bind ((looks_clsIn X1 hc).here ?_))))))
  rw [hd']
  refine wpAny_pure (a := some dx) (wpAny_bind (wpAny_pure (wpAny_bind ?_)))
  unfold nsSet
  refine wpAny_bind (wpAny_bind (wpAny_askSetting (wpAny_pure (wpAny_bind (wpAny_mkText (wpAny_bind (wpAny_loadPart zd.is ?_)))))))
  dsimp only
  have cc : (!(es.toArray).any (·.key.isStr name) && (es.toArray).any (·.refKey)) = false := by
    rw [← Array.any_toList, ← Array.any_toList]
    show (!es.any _ && es.any _) = false
    rw [hno, Bool.and_false]
  rw [aRefKeyMayBeTheName_at, cc]
  refine wpAny_updatePart zd.is ?_
  generalize (if name.cps.isEmpty = true then (0 : Int) else reduceHash ((model C.prog C.w).w.params.strHash name.cps)) = H
  generalize hf : Obj.putName name H (.str name (w.s.toks + 1)) u = f
  have hfo : f (dictOf es k) = dictOf (putL name H (.str name (w.s.toks + 1)) u es) (putN name es k) := by rw [← hf]; exact putName_dict _ _ _ _ _ _
  have hg : (w.s.heap.update dx f).get? dx = some (dictOf (putL name H (.str name (w.s.toks + 1)) u es) (putN name es k)) := by rw [Heap.get?_update_self _ zd.is (by rw [hfo]; rfl), hfo]
  have rp := repE_put (hash := H) (t := w.s.toks + 1) (name := name) q ru
  have hlen2 : (putL name H (.str name (w.s.toks + 1)) u es).length ≤ 1000 := Nat.le_trans (Nat.le_of_eq (repE_len rp)) (Nat.le_trans (kset_len fs name d) (by omega))
  have hother : ∀ b o, b ≠ dx → w.s.heap.get? b = some o → (w.s.heap.update dx f).get? b = some o := fun b o hb e => (Heap.get?_update_other w.s.heap f (Ne.symm hb)).trans e
  refine wpAny_bind (wpAny_lookBehind (o := dictOf (putL name H (.str name (w.s.toks + 1)) u es) (putN name es k)) hg (pastItsLine_dict (by rw [List.size_toArray, sizeLine_is]; omega)) (wpAny_pure ?_))
  exact ob_upd (t := w.s.toks + 1 + 1) I zd hg hother fun M a' e' => by cases em.symm.trans e'; exact ⟨dx, _, _, ⟨z.tag, hother _ _ hxd z.is⟩, ⟨zd.tag, hg⟩, RepE.mono M _ _ rp⟩
end
section
variable {K : Ctx} {ρ : Rho} {σ σ' σ₁ σ₂ σ₃ : St} {a b d : D} {n : Nat} {o e : Expr} {p pos : Pos} {nm : Str} {op : Operator} {c c' : Addr} {fs fs' : List (Str × D)}
theorem TE_attr (Fa : InsFacts K.C c nm) (ho : TE K ρ (eval o K.env) σ (.loc n) σ₁) (hn : σ₁[n]? = some (.ins c fs)) (hd : kget fs nm = some d)
    (he : eval (.Attribute o nm pos) K.env = (do
      let v ← eval o K.env
      standAt pos.atName
      let r ← holding [v] (getAttr v nm true)
      letTemporaryGo o v r
      pure r) := by rfl) : TE K ρ (eval (.Attribute o nm pos) K.env) σ d σ₁ := fun u0 u0 q =>
  Attribute_any_ (ho.go q fun v w1 n1 => wpAny_mono (getattr_ok Fa n1.p.I hn hd n1.r) (fun u u0 ⟨t, r⟩ => (out_rep n1.p.I r t).after n1.x) fun u0 u0 e => e) he
theorem TS_seta (Fa : InsFacts K.C c nm) (he : TE K ρ (eval e K.env) σ d σ₁) (ho : TE K ρ (eval o K.env) σ₁ (.loc n) σ₂) (hn : σ₂[n]? = some (.ins c fs)) (hz : fs.length ≤ 100) (hs : swapsWith e (some (.Attribute o nm p)) pos.line K.env = pure false := by rfl) :
    TS K ρ (exec (.Assign [.Attribute o nm p] e pos) K.env) σ .next ρ (σ₂.set n (.ins c (kset fs nm d))) := fun u0 u0 q =>
  plainObj_wpAny_Assign_Attribute (he.go q fun v w1 n1 => ho.go n1.p fun vo w2 n2 => wpAny_mono (setattr_ok Fa n2.p.I hn hz n2.r (n2.x.rep n1.r)) (fun u0 u0 u => u.stmt q (n1.x.trans n2.x)) fun u0 u0 e => e) hs
theorem TS_auga (Fa : InsFacts K.C c nm) (ho : TE K ρ (eval o K.env) σ (.loc n) σ₁) (hn : σ₁[n]? = some (.ins c fs)) (ha : kget fs nm = some a) (he : TE K ρ (eval e K.env) σ₁ b σ₂) (h : IBinOk op a b d) (hn' : σ₂[n]? = some (.ins c fs')) (hz : fs'.length ≤ 100) :
    TS K ρ (exec (.AugAssign (.Attribute o nm p) op e pos) K.env) σ .next ρ (σ₂.set n (.ins c (kset fs' nm d))) := fun u0 u0 q =>
  wpAny_AugAssign_AttributeAny (ho.go q fun vo w1 n1 => wpAny_mono (getattr_ok Fa n1.p.I hn ha n1.r) (fun u u0 ⟨t, ru⟩ => by
    have ox := out_rep (t := t) n1.p.I ru
    revert ox
    generalize ({ w1.s with toks := t } : Shared) = s3
    rintro ⟨w3, x3, I3, r3⟩
    exact he.go (n1.p.next x3 I3) fun vb w4 n4 => wpAny_mono (h n4.p.I (n4.x.rep r3) n4.r) (fun vn u0 ⟨w5, x5, I5, r5⟩ =>
      have x35 := (x3.trans n4.x).trans x5
      wpAny_mono (setattr_ok Fa I5 hn' hz (x35.rep n1.r) r5) (fun u0 u0 u => u.stmt q (n1.x.trans x35)) fun u0 u0 e => e) fun u0 u0 e => e) fun u0 u0 e => e)
end
end Mine
end
section
open PySem PySem.W PyProof.Rows
namespace Mine
noncomputable def CallTo (C : Cx) (k : Nat) (f : W → Value → Prop) (l : List D) (σ : St) (d : D) (σ' : St) : Prop :=
  ∀ ⦃A : Around⦄ ⦃w : W⦄ ⦃v : Value⦄ ⦃vals : List Value⦄ ⦃R : Result → Shared → Prop⦄, Rm k A → Inv C σ w → f w v → RepL C w l vals → (∀ u s', Out C w σ' d u s' → R (.ok (.ret u)) s') → codeAny C.M A (.call v ⟨vals, []⟩) R w.s
noncomputable def FnTo (C : Cx) (k : Nat) (fa : Addr) (l : List D) (σ : St) (d : D) (σ' : St) : Prop := CallTo C k (fun u0 v => v = .ref fa) l σ d σ'
noncomputable def LamTo (C : Cx) (k : Nat) (j : Nat) (c : List (Str × D)) (l : List D) (σ : St) (d : D) (σ' : St) : Prop := CallTo C k (fun w v => Rep C w (.lam j c) v) l σ d σ'
theorem Rm.less {j k : Nat} {A : Around} (h : Rm k A) (hj : j ≤ k) : Rm j A := ⟨h.handled, by have := h.depth; omega, by have := h.units; omega⟩
structure Glb (C : Cx) (x : Str) (v : Value) : Prop where
  at_ : C.mg x = some v
structure IsFn (C : Cx) (fa : Addr) : Prop where
  fo : ∃ o fd, C.h0.get? fa = some o ∧ o.data = .func fd
structure Bi (C : Cx) (x : Str) (v : Value) : Prop where
  mg : C.mg x = none
  mb : C.mb x = some v
noncomputable def Fd.glob (f : Fd) (x : Str) : Bool := f.scope.names.lookup x == some .globalImplicit && !(x == ("__debug__" : Str))
section
variable {K : Ctx} {ρ : Rho} {σ σ' σ₁ σ₂ σ₃ : St} {a b d : D} {n : Nat} {o e : Expr} {p pos : Pos} {x : Str} {v : Value} {w w' : W} {l : List D} {args : List Expr} {A : Around} {j : Nat} {E : Value → Shared → Prop}
theorem global_ok (q : Ok K ρ σ w) (hk : K.fd.glob x = true) (h : K.C.mg x = some v) {Q : Value → Shared → Prop} (hq : Q v w.s) : wpAny K.C.M A (eval (.Name x pos) K.env) Q E w.s := by
  unfold Fd.glob at hk
  rw [Bool.and_eq_true, Bool.not_eq_true', beq_iff_eq, ← q.o.kd] at hk
  have hg : w.s.heap.Ns K.env.globals K.C.mg := by
    rw [q.o.glob]; obtain ⟨o, es, ep, e, r⟩ := K.C.glob; exact ⟨o, es, ep, (q.I.base _ _ e).is, r⟩
  exact Calls.Name_function_global q.o.kind hk.1 (Calls.loadGlobal_global hg h hq) hk.2
theorem builtin_ok (q : Ok K ρ σ w) (hk : K.fd.glob x = true) (h : Bi K.C x v) {Q : Value → Shared → Prop} (hq : Q v w.s) : wpAny K.C.M A (eval (.Name x pos) K.env) Q E w.s := by
  unfold Fd.glob at hk
  rw [Bool.and_eq_true, Bool.not_eq_true', beq_iff_eq, ← q.o.kd] at hk
  have hg : w.s.heap.Ns K.env.globals K.C.mg := by
    rw [q.o.glob]; obtain ⟨o, es, ep, e, r⟩ := K.C.glob; exact ⟨o, es, ep, (q.I.base _ _ e).is, r⟩
  have hb : w.s.heap.Ns K.env.builtins K.C.mb := by
    rw [q.o.bi]; obtain ⟨o, es, ep, e, r⟩ := K.C.bltn; exact ⟨o, es, ep, (q.I.base _ _ e).is, r⟩
  exact Calls.Name_function_global q.o.kind hk.1 (Calls.loadGlobal_builtin hg h.mg hb h.mb hq) hk.2
theorem noStar : ∀ {args : List Expr} {env : Env} {pos : Pos}, unstarred args = true → (backTo pos (starEach args env)).any (·.1) = false
  | [], _, _, _ => rfl
  | e :: r, env, pos, h => by
    have h1 : unstarred [e] = true := by cases e <;> first | rfl | exact h
    have h2 : unstarred r = true := by cases e <;> first | exact h | cases h
    rw [starEach_cons (env := env) h1]
    show (false || (backTo pos (starEach r env)).any (·.1)) = false
    rw [noStar h2]; rfl
theorem evalArgs_spliced {M : Model} {f : Value} {args : List (Bool × Sem Value)} {s : Shared} {Q : Args → Shared → Prop} (hn : args.any (·.1) = false) (h : wpAny M A (spliced args) (fun vs s' => Q ⟨vs, []⟩ s') E s) : wpAny M A (evalArgs f true args []) Q E s := by
  cases args with
  | nil =>
    unfold evalArgs
    show wpAny M A (spliced [] >>= _) Q E s
    exact wpAny_bind (wpAny_mono h (fun vs s' h' => wpAny_bind (wpAny_pure (wpAny_holding (wpAny_bind (wpAny_pure (wpAny_bind (wpAny_pure (wpAny_pure h')))))))) fun u0 u0 x => x)
  | cons p r =>
    obtain ⟨b, x⟩ := p
    cases b with
    | true => cases hn
    | false => exact Calls.evalArgs_plain h
noncomputable abbrev TA (K : Ctx) (ρ : Rho) (args : List Expr) (pos : Pos) (σ : St) (l : List D) (σ' : St) : Prop := TL K ρ (spliced (backTo pos (starEach args K.env))) σ l σ'
theorem evalArgs_go {f : Value} (hu : unstarred args = true) (hl : TA K ρ args pos σ l σ₁) (q : Ok K ρ σ w) {Q : Args → Shared → Prop} (hq : ∀ vs w', Step NoF w w' → Ok K ρ σ₁ w' → RepL K.C w' l vs → Q ⟨vs, []⟩ w'.s) : wpAny K.C.M K.A (evalArgs f true (backTo pos (starEach args K.env)) []) Q E w.s :=
  evalArgs_spliced (noStar hu) (hl.go q hq)
theorem call_go {C : Cx} {k : Nat} {f : W → Value → Prop} {vals : List Value} (R : Rm k A) (h : CallTo C k f l σ d σ') (I : Inv C σ w) (hv : f w v) (hl : RepL C w l vals) {Q : Value → Shared → Prop} (hq : ∀ u s', Out C w σ' d u s' → Q u s') : wpAny C.M A (call v vals) Q E w.s := wpAny_call (h R I hv hl hq)
theorem TE_call {fa : Addr} (h : FnTo K.C j fa l σ₁ d σ') (hj : j ≤ K.k) (hg : Glb K.C x (.ref fa)) (hf : IsFn K.C fa) (hk : K.fd.glob x = true) (hu : unstarred args = true) (hl : TA K ρ args pos σ l σ₁) : TE K ρ (eval (.Call (.Name x p) args [] pos) K.env) σ d σ' := fun u0 u0 q => by
  obtain ⟨oo, fd, e1, e2⟩ := hf.fo
  exact wpAny_Call_Name_kw (global_ok q hk hg.at_ (Calls.callWith_function (o := oo) (fd := fd) (evalArgs_go hu hl q fun vs w1 x1 p1 r1 => ⟨⟨(p1.I.base _ _ e1).is, e2⟩, call_go (q.o.room.less hj) h p1.I rfl r1 fun u s' o => o.after x1⟩)))
theorem lam_obj {C : Cx} {c : List (Str × D)} {v : Value} (r : Rep C w (.lam j c) v) : ∃ a o fd, v = .ref a ∧ At w .fz a o ∧ o.data = .func fd := let ⟨a, ⟨o, fd, _, _, _, z, f, _, _, _⟩⟩ := r; ⟨a, o, fd, rfl, z, f⟩
structure MethFacts (C : Cx) (c : Addr) (nm : Str) (f : Addr) : Prop where
  hga : findIn C.K (.ref c) "__getattribute__" = some (some (.builtin "object.__getattribute__"))
  hk : findIn C.K (.ref c) "__getattr__" = some none
  hf : findIn C.K (.ref c) nm = some (some (.ref f))
  ht : typeIn C.K (.ref f) = some (.type "function")
theorem TE_mcall {nm : Str} {apos : Pos} {c fa : Addr} {fs : List (Str × D)} {pl : Sem Bool} (h : FnTo K.C j fa (.loc n :: l) σ₂ d σ') (hj : j ≤ K.k) (Mf : MethFacts K.C c nm fa) (hf : IsFn K.C fa) (hu : unstarred args = true) (ho : TE K ρ (eval o K.env) σ (.loc n) σ₁) (hn : σ₁[n]? = some (.ins c fs)) (hfs : kget fs nm = none) (hl : TA K ρ args pos σ₁ l σ₂)
    (he : eval (.Call (.Attribute o nm apos) args [] pos) K.env = (do
      let ov ← eval o K.env
      standAt apos.atName
      let (f, first) ← holding [ov] (getMethod ov nm pl)
      callWith pos f first (backTo pos (starEach args K.env)) (backToKw pos (keywordEach [] K.env))) := by rfl) : TE K ρ (eval (.Call (.Attribute o nm apos) args [] pos) K.env) σ d σ' := fun u0 u0 q => by
  obtain ⟨oo, fd, e1, e2⟩ := hf.fo
  refine methodCall_KW (pl := pl) (ho.go q fun v w1 n1 => ?_) he
  obtain ⟨x, em, dx, es, k, z, zd, r⟩ := ob_at n1.p.I hn n1.r
  have lk : lookIn nm (dictOf es k) = some none := by
    rcases repE_look (name := nm) (k := k) r with ⟨_, e⟩ | ⟨_, _, e, _⟩
    · exact e
    · exact nomatch hfs.symm.trans e
  refine method_fn n1.p.I.inK (instAt z.is zd.is) Mf.hga Mf.hk Mf.hf Mf.ht (by show (lookIn nm (dictOf es k)).map _ = _; rw [lk]; rfl) ?_
  show wpAny K.C.M K.A (callWith pos (.ref fa) [.ref x] (backTo pos (starEach args K.env)) []) _ _ _
  exact Calls.callWith_function (o := oo) (fd := fd) (evalArgs_go hu hl n1.p fun vs w2 x2 p2 r2 => ⟨⟨(p2.I.base _ _ e1).is, e2⟩, call_go (q.o.room.less hj) h p2.I rfl ⟨_, _, x2.rep n1.r, r2⟩ fun u s' o => o.after (n1.x.trans x2)⟩)
structure NewFacts (C : Cx) (c f : Addr) : Prop where
  keep : keepIn C.K (.ref c) = true
  makes : makesIn C.K c = true
  init : findIn C.K (.ref c) "__init__" = some (some (.ref f))
  ft : typeIn C.K (.ref f) = some (.type "function")
theorem Rm.tc {k : Nat} {A : Around} (h : Rm (k + 1) A) (a : Addr) (r : List Value) (kw : List (Str × Value)) : Rm k (A.under (.builtin "type.__call__" ⟨.ref a :: r, kw⟩)) := by
  have h1 : (Code.builtin "type.__call__" ⟨.ref a :: r, kw⟩).weight = 1 := by rfl
  have h2 : (Code.builtin "type.__call__" ⟨.ref a :: r, kw⟩).cUnits = 1 := by rfl
  refine ⟨h.handled, ?_, ?_⟩
  · have := h.depth; show A.depth + _ + k < _; omega
  · have := h.units; show A.units + _ + 10 * k + 100 < _; omega
theorem TE_new {c fa : Addr} (h : FnTo K.C j fa (.loc σ₁.length :: l) (σ₁ ++ [.ins c []]) .none σ') (hj : j + 1 ≤ K.k) (hg : Glb K.C x (.ref c)) (Nf : NewFacts K.C c fa) (hk : K.fd.glob x = true) (hu : unstarred args = true) (hl : TA K ρ args pos σ l σ₁) : TE K ρ (eval (.Call (.Name x p) args [] pos) K.env) σ (.loc σ₁.length) σ' := fun u0 u0 q => by
  refine wpAny_Call_Name_kw (global_ok q hk hg.at_ ?_)
  show wpAny K.C.M K.A (callWith pos (.ref c) [] (backTo pos (starEach args K.env)) []) _ _ _
  refine callWith_of (P := K.C.K.In) (by rw [noStar hu]; rfl) (keeps_K Nf.keep) (evalArgs_go hu hl q fun vs w1 x1 p1 r1 => ⟨p1.I.inK, ?_⟩)
  refine wpAny_call ?_
  have I1 := p1.I
  have hI := looks_findIn (M := K.C.M) I1.inK Nf.init
  have hM := makes_of (M := K.C.M) I1.inK Nf.makes
  have hB : ∀ self, Looks K.C.M w1.s.heap (bindSpecial (.ref fa) self) (.ref fa, [self]) := fun self => bind_fn I1.inK self Nf.ft
  obtain ⟨⟨hh, gg, dd, tt, oo⟩, tg, mn⟩ := w1
  refine make_core hM hI hB (.inl rfl) ?_
  dsimp only at hM hI hB ⊢
  have f1 := Heap.fresh0 hh
  have sz : (hh.push emptyDict).objs.size = hh.objs.size + 1 := Heap.size_push ..
  have f2 : hh.get? (hh.push emptyDict).objs.size = none := dead_of (w := ⟨⟨hh, gg, dd, tt, oo⟩, tg, mn⟩) fun ⟨o, q⟩ => by
    have := Heap.lt_size q
    rw [sz] at this; exact Nat.not_succ_lt_self this
  have gx : ((hh.push emptyDict).push (instObj c hh.objs.size)).get? (hh.push emptyDict).objs.size = some (instObj c hh.objs.size) := Heap.get?_push_size _ rfl
  have gd : ((hh.push emptyDict).push (instObj c hh.objs.size)).get? hh.objs.size = some emptyDict := Heap.get?_push_of_some _ (Heap.get?_push_size _ rfl)
  rw [← sz]
  generalize (hh.push emptyDict).objs.size = x at f2 gx
  generalize hh.objs.size = dx at f1 gx gd
  have c1 : Chg NoX ⟨⟨hh, gg, dd, tt, oo⟩, tg, mn⟩ (W.put ⟨⟨hh, gg, dd, tt, oo⟩, tg, mn⟩ [x, dx] (.ob σ₁.length) ((hh.push emptyDict).push (instObj c dx)) tt [x]) := .put fun t u0 b o z =>
    ⟨fun m => (List.mem_cons.mp m).elim (fun e => z.alive.no (e ▸ f2)) fun m => z.alive.no (List.mem_singleton.mp m ▸ f1), Heap.get?_push_of_some _ (Heap.get?_push_of_some _ z.is)⟩
  have x2 := c1.step (F := NoF) id fun u0 => id
  have tx : ∀ b, b = x ∨ b = dx → (W.put ⟨⟨hh, gg, dd, tt, oo⟩, tg, mn⟩ [x, dx] (.ob σ₁.length) ((hh.push emptyDict).push (instObj c dx)) tt [x]).tag b = .ob σ₁.length := fun b e => if_pos (e.elim (fun e => e ▸ .head _) fun e => e ▸ .tail _ (.head _))
  have I2 := I1.new (co := .ins c []) c1 (fun b m => (List.mem_cons.mp m).elim (fun e => ⟨_, e ▸ gx⟩) fun m => by rw [List.mem_singleton.mp m]; exact ⟨_, gd⟩) (fun b ⟨o, e⟩ => ⟨o, Heap.get?_push_of_some _ (Heap.get?_push_of_some _ e)⟩)
    (fun b m q => nomatch (I1.dead b ((List.mem_cons.mp m).elim (fun e => e ▸ f2) fun m => List.mem_singleton.mp m ▸ f1)).symm.trans q) ⟨dx, [], 0, ⟨tx _ (.inl rfl), gx⟩, ⟨tx _ (.inr rfl), gd⟩, rfl⟩
  have rx : Rep K.C (W.put ⟨⟨hh, gg, dd, tt, oo⟩, tg, mn⟩ [x, dx] (.ob σ₁.length) ((hh.push emptyDict).push (instObj c dx)) tt [x]) (.loc σ₁.length) (.ref x) :=
    ⟨x, by show (mn ++ [x])[σ₁.length]? = _; rw [← I1.len, List.getElem?_append_right (Nat.le_refl _), Nat.sub_self]; rfl, rfl⟩
  refine h (w := W.put ⟨⟨hh, gg, dd, tt, oo⟩, tg, mn⟩ [x, dx] (.ob σ₁.length) ((hh.push emptyDict).push (instObj c dx)) tt [x]) ((q.o.room.less hj).tc _ _ _) I2 rfl ⟨_, _, rx, x2.repL r1⟩ fun u s' ⟨w3, x3, I3, r3⟩ => ⟨r3, w3, (x1.trans x2).trans x3, I3, x3.rep rx⟩
end
end Mine
end
section
open PySem PySem.W PyProof.Rows
namespace Mine
theorem zip_lookup : ∀ {ns : List Str} {vs : List Value} {n : Str}, ns.length = vs.length → n ∈ ns → ∃ v, (ns.zip vs).lookup n = some v
  | a :: ns, v :: vs, n, h, m => by
    rw [List.zip_cons_cons, List.lookup_cons]
    cases q : n == a with
    | true => exact ⟨v, rfl⟩
    | false => exact (List.mem_cons.mp m).elim (fun e => by rw [e, BEq.rfl] at q; cases q) fun m => zip_lookup (Nat.succ.inj h) m
theorem zip_filterMap : ∀ {ns : List Str} {vs : List Value} {L : List (Str × Value)}, ns.length = vs.length → ns.Nodup → (∀ n v, (n, v) ∈ ns.zip vs → L.lookup n = some v) → ns.filterMap (fun n => (L.lookup n).map (n, ·)) = ns.zip vs
  | [], vs, _, _, _, _ => rfl
  | a :: ns, v :: vs, L, h, nd, f => by
    rw [List.zip_cons_cons, List.filterMap_cons, f a v (.head _)]
    exact congrArg ((a, v) :: ·) (zip_filterMap (Nat.succ.inj h) (List.nodup_cons.mp nd).2 fun n w m => f n w (.tail _ m))
theorem zip_self {ns : List Str} : ∀ {vs : List Value}, ns.length = vs.length → ns.Nodup → ∀ n v, (n, v) ∈ ns.zip vs → (ns.zip vs).lookup n = some v := by
  induction ns with
  | nil => exact fun u0 u0 n v m => nomatch m
  | cons a ns ih =>
    intro vs h nd n v m
    cases vs with
    | nil => cases h
    | cons w vs =>
      rw [List.zip_cons_cons] at m ⊢
      rw [List.lookup_cons]
      rcases List.mem_cons.mp m with e | m
      · cases e; rw [BEq.rfl]
      · rw [beq_false_of_ne fun (q : n = a) => (List.nodup_cons.mp nd).1 (q ▸ (List.of_mem_zip m).1)]
        exact ih (Nat.succ.inj h) (List.nodup_cons.mp nd).2 n v m
theorem bind_plain {fd : FuncData} {ps : List Arg} {vals : List Value} (hp : fd.params = ⟨[], ps, none, [], [], none, []⟩) (hd : fd.defaults = .none) (nd : (ps.map (·.arg)).Nodup) (hl : (ps.map (·.arg)).length = vals.length) :
    bindArgs fd ⟨vals, []⟩ = pure ((ps.map (·.arg)).zip vals) := by
  have h1 : (ps.map (·.arg)).filter (fun n => (((ps.map (·.arg)).zip vals).lookup n).isNone) = [] := by
    rw [List.filter_eq_nil_iff]
    intro n m
    obtain ⟨v, e⟩ := zip_lookup hl m
    rw [e]; exact Bool.false_ne_true
  have h2 := zip_filterMap (L := (ps.map (·.arg)).zip vals) hl nd (zip_self hl nd)
  clear nd
  obtain ⟨a, b, params, body, scope, globals, closure, defaults, kd, doc, pm, an, code, ct, bi⟩ := fd
  cases hp
  cases hd
  have z : ∀ (l : List Str) n, l.zip (List.drop n ([] : List Value)) = [] := fun l n => by rw [List.drop_nil, List.zip_nil_right]
  have hn : ¬ (decide (vals.length > (ps.map (·.arg)).length) && true) = true := by rw [hl, decide_eq_false (Nat.lt_irrefl _)]; exact Bool.false_ne_true
  show (ite _ _ _ : Sem _) = _
  refine (if_neg hn).trans ?_
  show (ite _ _ _ : Sem _) = _
  refine (if_neg ?_).trans ?_
  · show ¬ (!(((ps.map (·.arg)).take ((ps.map (·.arg)).length - (List.drop (0 - (ps.map (·.arg)).length) ([] : List Value)).length)).filter (fun n => (((ps.map (·.arg)).zip vals).lookup n).isNone)).isEmpty) = true
    rw [List.drop_nil, List.length_nil, Nat.sub_zero, List.take_length, h1]
    exact Bool.false_ne_true
  show (forIn (List.zip _ (List.drop _ ([] : List Value))) _ _ >>= _ : Sem _) = _
  rw [z]
  show (pure (List.filterMap (fun n => (((ps.map (·.arg)).zip vals).lookup n).map (n, ·)) (ps.map (·.arg) ++ [])) : Sem _) = _
  rw [List.append_nil, h2]
inductive StoL (f : Fd) : List Str → List D → Rho → Rho → Prop
  | nil {ρ : Rho} : StoL f [] [] ρ ρ
  | cons {x : Str} {xs : List Str} {d : D} {ds : List D} {ρ ρ' : Rho} (i : Nat) (hi : f.ns[i]? = some x) (hm : f.may ρ i = true) (r : StoL f xs ds (ρ.set i (some d)) ρ') : StoL f (x :: xs) (d :: ds) ρ ρ'
theorem StoL.len {f : Fd} {xs : List Str} {ds : List D} {ρ ρ' : Rho} (h : StoL f xs ds ρ ρ') : xs.length = ds.length := by
  induction h with
  | nil => rfl
  | cons _ _ _ _ ih => exact congrArg (· + 1) ih
theorem store_each {K : Ctx} {σ : St} {E : Value → Shared → Prop} {M : Model} {A : Around} {f : Str × Value → PUnit → Sem (ForInStep PUnit)} (hf : ∀ n v u, f (n, v) u = (do storeName K.env n v; pure (ForInStep.yield PUnit.unit))) {xs : List Str} {ds : List D} {ρ ρ' : Rho} (h : StoL K.fd xs ds ρ ρ') :
    ∀ {vs : List Value} {w : W}, Ok K ρ σ w → RepL K.C w ds vs → wpAny M A (forIn (xs.zip vs) PUnit.unit f) (fun u0 => OutN K K.own1 w σ ρ') E w.s := by
  induction h with
  | nil => intro vs w p r; rw [List.zip_nil_left, List.forIn_nil]; exact wpAny_pure ⟨w, .refl _ _, p.I, p.V⟩
  | cons i hi hm _ ih =>
    intro vs w p ⟨v, vs, r1, r2⟩
    rw [List.zip_cons_cons, List.forIn_cons, hf]
    exact wpAny_bind (wpAny_bind (wpAny_mono (store_ok p.o p.I p.V hi hm r1) (fun u0 u0 ⟨w1, x1, I1, V1⟩ => wpAny_pure (wpAny_mono (ih ⟨p.o, I1, V1⟩ (x1.repL r2)) (fun u0 u0 o => o.after x1) fun u0 u0 e => e)) fun u0 u0 e => e))
noncomputable def plainP (p : Arguments) : Bool := match p with
  | ⟨po, _, va, ko, kd, kw, d⟩ => po.isEmpty && va.isNone && ko.isEmpty && kd.isEmpty && kw.isNone && d.isEmpty
theorem plainP_ok {p : Arguments} (h : plainP p = true) : p = ⟨[], p.args, none, [], [], none, []⟩ := by
  obtain ⟨po, ar, va, ko, kd, kw, d⟩ := p
  unfold plainP at h
  simp only [Bool.and_eq_true, List.isEmpty_iff, Option.isNone_iff_eq_none] at h
  obtain ⟨⟨⟨⟨⟨rfl, rfl⟩, rfl⟩, rfl⟩, rfl⟩, rfl⟩ := h
  rfl
noncomputable def fnB (f : Fd) (params : Arguments) (frees : List Str) : Bool :=
  plainP params && nodupB (params.args.map (·.arg)) && f.scope.kind == .function && !f.scope.isCoroutine && !f.scope.isGenerator && nodupB (f.scope.names.map (·.1)) && nodupB f.ns && nmB (ownK f.scope) f.own 0 f.ns && f.own.all (fun i => decide (i < f.ns.length))
  && f.scope.names.all (fun p => !(p.2 == .free) || frees.contains p.1)
structure FnOk (f : Fd) (params : Arguments) (frees : List Str) : Prop where
  pl : params = ⟨[], params.args, none, [], [], none, []⟩
  ndp : (params.args.map (·.arg)).Nodup
  kind : f.scope.kind = .function
  co : f.scope.isCoroutine = false
  ge : f.scope.isGenerator = false
  nd : ∀ x k, (x, k) ∈ f.scope.names → f.scope.names.lookup x = some k
  nds : f.ns.Nodup
  own : ∀ (i : Nat) x, f.ns[i]? = some x → (i ∈ f.own ↔ f.scope.names.lookup x = some .local ∨ f.scope.names.lookup x = some .cell)
  lt : ∀ i ∈ f.own, i < f.ns.length
  fre : ∀ x, f.scope.names.lookup x = some .free → x ∈ frees
theorem fnB_ok {f : Fd} {params : Arguments} {frees : List Str} (h : fnB f params frees = true) : FnOk f params frees := by
  obtain ⟨h, h10⟩ := Bool.and_eq_true_iff.mp h
  obtain ⟨h, h9⟩ := Bool.and_eq_true_iff.mp h
  obtain ⟨h, h8⟩ := Bool.and_eq_true_iff.mp h
  obtain ⟨h, h7⟩ := Bool.and_eq_true_iff.mp h
  obtain ⟨h, h6⟩ := Bool.and_eq_true_iff.mp h
  obtain ⟨h, h5⟩ := Bool.and_eq_true_iff.mp h
  obtain ⟨h, h4⟩ := Bool.and_eq_true_iff.mp h
  obtain ⟨h, h3⟩ := Bool.and_eq_true_iff.mp h
  obtain ⟨h1, h2⟩ := Bool.and_eq_true_iff.mp h
  refine ⟨plainP_ok h1, nodupB_ok h2, eq_of_beq h3, (Bool.not_eq_true' _).mp h4, (Bool.not_eq_true' _).mp h5, fun x k m => lookup_nodup (nodupB_ok h6) m, nodupB_ok h7, fun i x e => ?_, fun i m => of_decide_eq_true (List.all_eq_true.mp h9 i m), fun x q => ?_⟩
  · have := nmB_ok h8 i x e
    rw [Nat.zero_add] at this
    rw [← List.contains_iff_mem, this]
    exact Bool.or_eq_true_iff.trans (or_congr beq_iff_eq beq_iff_eq)
  · have := List.all_eq_true.mp h10 _ (mem_of_lookup q)
    exact (Bool.or_eq_true_iff.mp this).elim (fun q => nomatch q) fun q => List.contains_iff_mem.mp q
noncomputable abbrev Ctx.fn (C : Cx) (A : Around) (k : Nat) (f : Fd) (env : Env) : Ctx := ⟨C, A, k, env, f, [env.locals]⟩
structure HandsOk (C : Cx) (w : W) (f : Fd) (cl : List (Str × Addr)) (ρ : Rho) : Prop where
  bl : ∀ i ∈ f.own, ρ[i]? = some none
  has : ∀ x, f.scope.names.lookup x = some .free → ∃ c, cl.lookup x = some c
  hand : ∀ x c, cl.lookup x = some c → ∃ o v, At w .fz c o ∧ o.data = .cell (some v) ∧ ∀ (i : Nat) d, f.ns[i]? = some x → ρ[i]? = some (some d) → Rep C w d v
theorem fn_frame {C : Cx} {σ : St} {w : W} {A A' : Around} {k : Nat} {f : Fd} {params : Arguments} {frees : List Str} {cl : List (Str × Addr)} {ρ₀ ρ : Rho} {xs : List Str} {l : List D} {vals : List Value} {qual : Str} {func : Option Addr} {code : Value} {E : Value → Shared → Prop} {Q : Env → Shared → Prop}
    (S : FnOk f params frees) (I : Inv C σ w) (R : Rm (k + 1) A) (H : HandsOk C w f cl ρ₀) (st : StoL f xs l ρ₀ ρ) (hl : RepL C w l vals)
    (hq : ∀ env w', env.code = code → NoT w env.locals → Step NoF w w' → Ok (.fn C (A.deeper env) k f env) ρ σ w' → Q env w'.s) : wpAny C.M A' (newFunctionEnv f.scope mainGlobals cl (xs.zip vals) qual func code none builtinsNs) Q E w.s := by
  simp only [newFunctionEnv, Option.isSome_none, Bool.false_eq_true, if_false]
  refine wpAny_bind (wpAny_alloc ?_)
  refine wpAny_bind (wpAny_layCells _ (fun name kind cells => by cases hkc : kind == NameKind.cell <;> simp) _ _ _ _ ?_)
  rw [show ({ w.s with heap := w.s.heap.push { cls := .type "frame", data := .dict #[] } } : Shared).heap.objs.size = w.s.heap.objs.size + 1 from Heap.size_push ..]
  have F : FrameAt (.fn C (A.deeper (newEnv f.scope w.s.heap.objs.size mainGlobals (cellsFrom (w.s.heap.objs.size + 1) f.scope.names cl) qual func code none builtinsNs)) k f (newEnv f.scope w.s.heap.objs.size mainGlobals (cellsFrom (w.s.heap.objs.size + 1) f.scope.names cl) qual func code none builtinsNs)) w f.scope.names cl ρ₀ :=
    ⟨R.deeper _, rfl, S.kind, rfl, rfl, S.nds, rfl, rfl, .head _, fun j m => .inl (List.mem_singleton.mp m), (fun i m d e => nomatch (H.bl i m).symm.trans e), fun i m => by unfold Ctx.tagOf; rw [H.bl i m], fun i x e h => (S.own i x e).mpr (h.imp id (S.nd x _)), fun i m x e => ((S.own i x e).mp m).imp id fun h => ⟨h, mem_of_lookup h⟩,
     fun x h => h.imp (fun h => mem_of_lookup h) (H.has x), fun x c e => let ⟨o, v, z, e1, r⟩ := H.hand x c e; ⟨o, some v, .fz, z, e1, .inl rfl, fun i d a b => ⟨v, rfl, r i d a b⟩⟩⟩
  have nf := frame_new F I (.type "frame") w.s.toks
  have nl := NoT.of I (Heap.fresh0 w.s.heap)
  revert nf
  show NewF _ _ _ _ { w.s with heap := pushCells (w.s.heap.push { cls := .type "frame", data := .dict #[] }) f.scope.names } → _
  generalize ({ w.s with heap := pushCells (w.s.heap.push { cls := .type "frame", data := .dict #[] }) f.scope.names } : Shared) = s1
  rintro ⟨w1, x1, p1⟩
  refine wpAny_bind (wpAny_mono (store_each (fun n v u => rfl) st p1 (x1.repL hl)) (fun u0 u0 ⟨w2, x2, I2, V2⟩ => wpAny_pure ?_) fun u0 u0 e => e)
  exact hq _ w2 rfl nl ((x1.ofN.trans x2).tight fun b q => .inr (q ▸ nl)) ⟨p1.o, I2, V2⟩
structure FnAt (C : Cx) (fa : Addr) (params : Arguments) (scope : Scope) (body : List Stmt) (c : Addr) : Prop where
  at_ : ∃ o fd, C.h0.get? fa = some o ∧ o.data = .func fd ∧ fd.body = .stmts body ∧ fd.params = params ∧ fd.scope = scope ∧ fd.globals = mainGlobals ∧ fd.builtins = builtinsNs ∧ fd.closure = [] ∧ fd.defaults = .none ∧ fd.code = .ref c ∧ C.h0.CodeRec (.ref c) fd.qualname
theorem FnAt.isFn {C : Cx} {fa : Addr} {params : Arguments} {scope : Scope} {body : List Stmt} {c : Addr} (h : FnAt C fa params scope body c) : IsFn C fa := let ⟨o, fd, e, d, _⟩ := h.at_; ⟨o, fd, e, d⟩
inductive OutR (K : Ctx) (w : W) (σ : St) (d : D) : Flow → Shared → Prop
  | mk (w' : W) (x : Step K.own1 w w') (I : Inv K.C σ w') (v : Value) (r : Rep K.C w' d v) : OutR K w σ d (.ret v) w'.s
noncomputable def TR (K : Ctx) (ρ : Rho) (t : Sem Flow) (σ : St) (d : D) (σ' : St) : Prop := ∀ ⦃w : W⦄ ⦃E : Value → Shared → Prop⦄, Ok K ρ σ w → wpAny K.C.M K.A t (OutR K w σ' d) E w.s
section
variable {K : Ctx} {ρ ρ' ρ₁ : Rho} {σ σ₁ σ' : St} {w w' : W} {d : D} {pos : Pos}
theorem OutR.after (x : Step K.own1 w w') {f : Flow} {s : Shared} : OutR K w' σ d f s → OutR K w σ d f s
  | ⟨w₂, a, b, v, h⟩ => ⟨w₂, x.trans a, b, v, h⟩
theorem TR_cons {st : Stmt} {rest : List Stmt} (h1 : TS K ρ (exec st K.env) σ .next ρ₁ σ₁) (h2 : TR K ρ₁ (execs rest K.env) σ₁ d σ') : TR K ρ (execs (st :: rest) K.env) σ d σ' := fun u0 u0 p =>
  wpAny_execs_cons (wpAny_mono (h1 p) (fun u0 u0 ⟨_, x1, I1, V1, h⟩ => by cases h; exact wpAny_mono (h2 ⟨p.o, I1, V1⟩) (fun u0 u0 o => o.after x1) fun u0 u0 e => e) fun u0 u0 e => e)
theorem TR_stop {st : Stmt} {rest : List Stmt} (h : TR K ρ (exec st K.env) σ d σ') : TR K ρ (execs (st :: rest) K.env) σ d σ' := fun u0 u0 p =>
  wpAny_execs_cons (wpAny_mono (h p) (fun u0 u0 ⟨w1, x1, I1, v, r⟩ => ⟨w1, x1, I1, v, r⟩) fun u0 u0 e => e)
theorem TR_of {t : Sem Flow} (h : TS K ρ t σ (.ret d) ρ' σ') : TR K ρ t σ d σ' := fun u0 u0 p => wpAny_mono (h p) (fun u0 u0 ⟨w1, x1, I1, _, r⟩ => by cases r with | ret r => exact ⟨w1, x1, I1, _, r⟩) fun u0 u0 e => e
theorem TR_if_t {test : Expr} {body els : List Stmt} (ht : TB K ρ (isTrue test K.env (eval test K.env)) σ true σ₁) (h : TR K ρ (execs body K.env) σ₁ d σ') : TR K ρ (exec (.If test body els pos) K.env) σ d σ' := fun u0 u0 p =>
  wpAny_If (ht.go p fun w1 x1 p1 => wpAny_mono (h p1) (fun u0 u0 o => o.after x1.ofN) fun u0 u0 e => e)
theorem TR_ret {e : Expr} (h : TE K ρ (eval e K.env) σ d σ') : TR K ρ (exec (.Return (some e) pos) K.env) σ d σ' := fun u0 u0 p => wpAny_Return_some (h.go p fun v w1 n => ⟨w1, n.x.ofN, n.p.I, v, n.r⟩)
end
inductive Body (C : Cx) (k : Nat) (f : Fd) (c : Addr) (body : List Stmt) (ρ : Rho) (σ : St) : D → St → Prop
  | ret {d : D} {σ' : St} (h : ∀ A env, env.code = .ref c → TR (.fn C A k f env) ρ (execs body env) σ d σ') : Body C k f c body ρ σ d σ'
  | none {σ' : St} (ρ' : Rho) (h : ∀ A env, env.code = .ref c → TS (.fn C A k f env) ρ (execs body env) σ .next ρ' σ') : Body C k f c body ρ σ .none σ'
theorem hands0 {C : Cx} {w : W} {f : Fd} {params : Arguments} (S : FnOk f params []) : HandsOk C w f [] (List.replicate f.ns.length none) :=
  ⟨fun i m => (List.getElem?_replicate ..).trans (if_pos (S.lt i m)), (fun x h => nomatch S.fre x h), fun u0 u0 e => nomatch e⟩
theorem call_fn {C : Cx} {fa c : Addr} {params : Arguments} {f : Fd} {body : List Stmt} {k : Nat} {l : List D} {ρ : Rho} {σ σ' : St} {d : D} (hlim : C.h0.NoLimit) (At : FnAt C fa params f.scope body c) (B : fnB f params [] = true) (st : StoL f (params.args.map (·.arg)) l (List.replicate f.ns.length none) ρ) (b : Body C k f c body ρ σ d σ') :
    FnTo C (k + 1) fa l σ d σ' := fun {A w v vals R} Rr I hv hl hR => by
  subst hv
  have S := fnB_ok B
  obtain ⟨o, fd, e1, e2, e3, e4, e5, e6, e7, e8, e9, e11, e12⟩ := At.at_
  have keep : ∀ b o, C.h0.get? b = some o → w.s.heap.get? b = some o := fun b o e => (I.base b o e).is
  refine codeAny_call_function (fd := fd) (body := body) Rr.room (keep _ _ e1) e2 (e5 ▸ S.co) (e5 ▸ S.ge) e3 (by rw [e11]; exact e12.keeps keep) ?_
  rw [bind_plain (fd := fd) (ps := params.args) (vals := vals) (e4.trans S.pl) e9 S.ndp (st.len.trans hl.length.symm)]
  refine wpAny_pure ?_
  rw [e5, e6, e7, e8, e11]
  refine fn_frame S I Rr (hands0 S) st hl fun env w1 hc nl x1 p1 => ⟨hlim.at fun o e => (p1.I.base _ o e).is, codeAny_func ?_⟩
  cases b with
  | ret h => exact wpAny_mono (h _ env hc (E := fun u0 u0 => False) p1) (fun fq u0 ⟨w2, x2, I2, v, r⟩ => hR _ _ ⟨w2, (x1.ofN.trans x2).tight fun b q => .inr (q ▸ nl), I2, r⟩) fun e s' q => q.elim
  | none ρ' h => exact wpAny_mono (h _ env hc (E := fun u0 u0 => False) p1) (fun fq u0 ⟨w2, x2, I2, V2, r⟩ => by cases r; exact hR _ _ ⟨w2, (x1.ofN.trans x2).tight fun b q => .inr (q ▸ nl), I2, rfl⟩) fun e s' q => q.elim
noncomputable def capR (f : Fd) (c : List (Str × D)) : Rho := f.ns.map fun x => kget c x
theorem kget_mem {κ : Type} [DecidableEq κ] : ∀ {l : List (κ × D)} {k : κ} {d : D}, kget l k = some d → (k, d) ∈ l
  | (j, x) :: l, k, d, h => by
    have h : (if j = k then some x else kget l k) = some d := h
    by_cases q : j = k
    · subst q; cases (if_pos rfl).symm.trans h; exact .head _
    · exact .tail _ (kget_mem ((if_neg q).symm.trans h))
theorem repC_get {C : Cx} {w : W} {cl : List (Str × Addr)} : ∀ {c : List (Str × D)}, RepC C w c cl → ∀ {x d}, (x, d) ∈ c → HCell w x cl (Rep C w d)
  | _ :: _, ⟨a, b⟩, _, _, m => by
    cases m with
    | head => exact a
    | tail _ m => exact repC_get b m
theorem call_lam {C : Cx} {params : Arguments} {f : Fd} {body : Expr} {k j : Nat} {c : List (Str × D)} {l : List D} {ρ : Rho} {σ σ' : St} {d : D} (hlim : C.h0.NoLimit) (hlt : ∀ i, C.LT j i → i = ⟨params, body, f.scope⟩) (B : fnB f params (c.map (·.1)) = true) (hf : (c.map (·.1)).all (fun x => f.scope.names.lookup x == some .free) = true)
    (st : StoL f (params.args.map (·.arg)) l (capR f c) ρ) (b : ∀ A env, TE (.fn C A k f env) ρ (eval body env) σ d σ') : LamTo C (k + 1) j c l σ d σ' := fun {A w v vals R} Rr I hv hl hR => by
  have S := fnB_ok B
  obtain ⟨a, o, fd, cd, oc, i, z, e2, zc, L, rc⟩ := hv
  cases hlt i L.lt
  obtain ⟨vs, t, r1, r2⟩ := L.rec'
  have hcn : ∀ x, x ∈ c.map (·.1) → f.scope.names.lookup x = some .free := fun x m => eq_of_beq (List.all_eq_true.mp hf x m)
  have e5 : fd.scope = f.scope := L.scope
  refine kla_callFunE (fd := fd) (body := body) Rr.room z.is e2 (e5 ▸ S.co) (e5 ▸ S.ge) L.body (by rw [L.code]; exact ⟨cd, oc, vs, t, rfl, zc.is, r1, r2⟩) ?_
  rw [bind_plain (fd := fd) (ps := params.args) (vals := vals) (L.params.trans S.pl) L.defaults S.ndp (st.len.trans hl.length.symm)]
  refine wpAny_pure ?_
  rw [e5, L.globals, L.builtins]
  have gk : ∀ {i x d}, f.ns[i]? = some x → (capR f c)[i]? = some (some d) → kget c x = some d := fun {i x d} a e => by
    unfold capR at e; rw [List.getElem?_map, a] at e; exact Option.some.inj e
  refine fn_frame S I Rr ⟨fun i m => ?_, fun x h => ?_, fun x c' e => ?_⟩ st hl fun env w1 hc nl x1 p1 => ⟨hlim.at fun o e => (p1.I.base _ o e).is, kla_codeExpr ?_⟩
  · have hi := S.lt i m
    have : (capR f c)[i]? = some (kget c f.ns[i]) := by unfold capR; rw [List.getElem?_map, List.getElem?_eq_getElem hi]; rfl
    rw [this]
    cases q : kget c f.ns[i] with
    | none => rfl
    | some d =>
      have h1 := hcn _ (List.mem_map.mpr ⟨_, kget_mem q, rfl⟩)
      exact ((S.own i _ (List.getElem?_eq_getElem hi)).mp m).elim (fun h => nomatch h1.symm.trans h) fun h => nomatch h1.symm.trans h
  · obtain ⟨⟨y, d⟩, m, e⟩ := List.mem_map.mp (S.fre x h)
    cases e
    obtain ⟨c', u1, u2, e, u3⟩ := repC_get rc m
    exact ⟨c', e⟩
  · obtain ⟨d, m⟩ := L.caps x c' e
    obtain ⟨c₂, o, v, e1, z, e2, r⟩ := repC_get rc m
    cases e.symm.trans e1
    refine ⟨o, v, z, e2, fun i d' a b => ?_⟩
    obtain ⟨c₃, o', v', e1', z', e2', r'⟩ := repC_get rc (kget_mem (gk a b))
    cases e.symm.trans e1'
    cases z.is.symm.trans z'.is
    cases e2.symm.trans e2'
    exact r'
  · exact wpAny_mono (b (A.deeper env) env (E := fun u0 u0 => False) p1) (fun u u0 o => hR u _ (o.after x1)) fun e s' q => q.elim
end Mine
end
section
open PySem PySem.W PyProof.Rows
namespace Mine
noncomputable def plainVal : Value → Bool
  | .builtin _ => true
  | .type _ => true
  | _ => false
inductive Grown (C : Cx) (w : W) (σ : St) (h : Heap) : Shared → Prop
  | mk (w' : W) (x : Step NoF w w') (I : Inv C σ w') (e : w'.s.heap = h) (tg : ∀ b, w'.tag b = w.tag b) : Grown C w σ h w'.s
theorem grown {C : Cx} {w : W} {σ : St} {h : Heap} (I : Inv C σ w) (t : Tok) (hk : ∀ b o, w.s.heap.get? b = some o → h.get? b = some o) : Grown C w σ h { w.s with heap := h, toks := t } :=
  ⟨w.put [] .fz h t [], .grow hk, I.grow hk, rfl, fun b => show (if b ∈ ([] : List Addr) then Tag.fz else w.tag b) = w.tag b from if_neg List.not_mem_nil⟩
section
variable {K : Ctx} {ρ : Rho} {σ σ' σ₁ : St} {w w' : W} {x : Str} {p pos : Pos} {args : List Expr} {l : List D} {v : Value} {E : Value → Shared → Prop} {e o target : Expr} {A : Around} {C : Cx} {n : Nat}
theorem callWith_go {first : List Value} (hv : plainVal v = true) (hu : unstarred args = true) (hl : TA K ρ args pos σ l σ₁) (q : Ok K ρ σ w) {Q : Value → Shared → Prop}
    (hq : ∀ vs w', Step NoF w w' → Ok K ρ σ₁ w' → RepL K.C w' l vs → wpAny K.C.M K.A (call v (first ++ vs)) Q E w'.s) : wpAny K.C.M K.A (callWith pos v first (backTo pos (starEach args K.env)) []) Q E w.s := by
  cases v <;> first | (cases hv; done) | skip
  · exact PyProof.Rows.callWith_type (noStar hu) (evalArgs_go hu hl q hq)
  · exact Calls.callWith_builtin (noStar hu) (evalArgs_go hu hl q hq)
theorem TE_bi {d : D} (hb : Bi K.C x v) (hk : K.fd.glob x = true) (hv : plainVal v = true) (hu : unstarred args = true) (hl : TA K ρ args pos σ l σ₁) (h : ∀ {w vs} {E : Value → Shared → Prop}, Ok K ρ σ₁ w → RepL K.C w l vs → wpAny K.C.M K.A (call v vs) (Out K.C w σ' d) E w.s) : TE K ρ (eval (.Call (.Name x p) args [] pos) K.env) σ d σ' := fun u0 u0 q =>
  wpAny_Call_Name_kw (builtin_ok q hk hb (callWith_go (first := []) hv hu hl q fun vs w1 x1 p1 r1 => wpAny_mono (h p1 r1) (fun u0 u0 o => o.after x1) fun u0 u0 e => e))
theorem iter_rangeO {a b c : Int} {r : Addr} {t u v : Tok} (hh : A.handled = none) (I : Inv C σ w) (hr : IsRange w.s.heap r a b c t u v) (hsmall : Builtin.Range.small a b c = true) (hz : Builtin.Range.rangeSize a b c = (n : Int)) {f : Nat → Int} (hf : ∀ i : Nat, a + (i : Int) * c = f i) :
    wpAny C.M A (pyIter (.ref r)) (IterO C A target Nl ((List.range n).map fun i => .int (f i)) w σ) E w.s := by
  have hn : (Builtin.Range.rangeSize a b c).toNat = n := by rw [hz]; rfl
  refine wpAny_pyIter_range hr hsmall (iterO_of I rfl (Walks.range hh w.s.heap.objs.size a c n) (by rw [List.length_map, List.length_range]) (fun i s' v Q E st q => go_of st rfl (by decide) q) (fun i h st => ⟨_, st⟩) (aux := fun u0 => True) (fun u0 u0 u0 h => h) (fun i d w v hd u0 hv => ?_) trivial ?_ fun b hb => .inl (List.mem_singleton.mp hb))
  · obtain ⟨t, rfl⟩ := hv
    rw [List.getElem?_map] at hd
    obtain ⟨j, e, rfl⟩ := Option.map_eq_some_iff.mp hd
    obtain ⟨h1, h2⟩ := List.getElem?_eq_some_iff.mp e
    rw [List.getElem_range] at h2
    exact ⟨t, by rw [hf, h2]⟩
  · show IsRangeIter _ _ _ _ _
    have e0 : ((0 : Nat) : Int) = 0 := rfl
    rw [← hz, e0, Int.sub_zero, Int.zero_mul, Int.add_zero]
    exact Heap.get?_push_size _ rfl
theorem range_at {a b c : Int} {t u v : Tok} {tk : Tok} (q : Ok K ρ σ w) (hsmall : Builtin.Range.small a b c = true) (hz : Builtin.Range.rangeSize a b c = (n : Int)) {f : Nat → Int} (hf : ∀ i : Nat, a + (i : Int) * c = f i) :
    wpAny K.C.M K.A (pyIter (.ref w.s.heap.objs.size)) (IterO K.C K.A target Nl ((List.range n).map fun i => .int (f i)) w σ) E { w.s with heap := w.s.heap.push { cls := .type "range", data := .fields #[.int a t, .int b u, .int c v] }, toks := tk } := by
  have hr : IsRange (w.s.heap.push { cls := .type "range", data := .fields #[.int a t, .int b u, .int c v] }) w.s.heap.objs.size a b c t u v := IsRange.new ..
  have g := grown (h := w.s.heap.push { cls := .type "range", data := .fields #[.int a t, .int b u, .int c v] }) q.I tk fun b' o e => Heap.get?_push_of_some _ e
  revert g
  generalize ({ w.s with heap := w.s.heap.push { cls := .type "range", data := .fields #[.int a t, .int b u, .int c v] }, toks := tk } : Shared) = s2
  rintro ⟨w2, x2, I2, e2, _⟩
  exact wpAny_mono (iter_rangeO q.o.room.handled I2 (e2 ▸ hr) hsmall hz hf) (fun u0 u0 o => o.after q.I x2) fun u0 u0 e => e
theorem size1 {a : Int} : Builtin.Range.rangeSize a (a + n) 1 = (n : Int) := by
  unfold Builtin.Range.rangeSize
  simp only [gt_iff_lt]
  rw [if_pos (by decide)]
  split
  · rw [Int.ediv_one]; omega
  · omega
theorem small1 {a : Int} (h : 0 ≤ a) (h1 : a + n ≤ 1000000000000000000) : Builtin.Range.small a (a + n) 1 = true := by
  unfold Builtin.Range.small
  rw [size1]
  simp only [Builtin.Range.rangeFitsLong, Bool.and_eq_true, Bool.or_eq_true, decide_eq_true_eq, beq_iff_eq, gt_iff_lt, if_pos (show (0 : Int) < 1 by decide)]
  omega
theorem TI_range1 (hb : Bi K.C x (.type "range")) (hk : K.fd.glob x = true) (hu : unstarred args = true) (hl : TA K ρ args pos σ [.int (n : Int)] σ') (hz : n ≤ 1000000000) : TI K ρ (.Call (.Name x p) args [] pos) target σ ((List.range n).map fun (i : Nat) => .int i) σ' := fun u0 u0 q =>
  wpAny_Call_Name_kw (builtin_ok q hk hb (callWith_go (first := []) rfl hu hl q fun vs w1 x1 p1 ⟨_, _, ⟨t, e⟩, e'⟩ => by
    subst e e'
    exact call_range_1 (wpAny_mono (range_at (a := 0) (c := 1) p1 (by have := small1 (n := n) (Int.le_refl 0) (by omega); rwa [Int.zero_add] at this) (by have := size1 (n := n) (a := 0); rwa [Int.zero_add] at this) (fun i => by omega)) (fun u0 u0 o => o.after q.I x1) fun u0 u0 e => e)))
theorem TI_range2 {a : Nat} (hb : Bi K.C x (.type "range")) (hk : K.fd.glob x = true) (hu : unstarred args = true) (hl : TA K ρ args pos σ [.int (a : Int), .int ((a : Int) + n)] σ') (hz : a + n ≤ 1000000000) : TI K ρ (.Call (.Name x p) args [] pos) target σ ((List.range n).map fun (i : Nat) => .int ((a : Int) + i)) σ' := fun u0 u0 q =>
  wpAny_Call_Name_kw (builtin_ok q hk hb (callWith_go (first := []) rfl hu hl q fun vs w1 x1 p1 ⟨_, _, ⟨t, e⟩, _, _, ⟨u, e2⟩, e'⟩ => by
    subst e e2 e'
    exact call_range_2 (wpAny_mono (range_at (a := (a : Int)) (c := 1) p1 (small1 (Int.natCast_nonneg a) (by omega)) size1 (fun i => by omega)) (fun u0 u0 o => o.after q.I x1) fun u0 u0 e => e)))
structure MeFacts (T : String) (name : Str) (id : String) : Prop where
  attrs : PlainAttrs T
  slot : Slot T name id
  ty : typeOf (.builtin id) = pure (.type "method_descriptor")
inductive HasT (w : W) (T : String) : Value → Prop
  | str {x : Str} {t : Tok} (h : T = "str") : HasT w T (.str x t)
  | ref {a : Addr} {o : Obj} (z : w.s.heap.get? a = some o) (c : o.cls = .type T) (d : o.dict = none) : HasT w T (.ref a)
theorem HasT.is {T : String} (h : HasT w T v) : w.s.TypeIs v T ∧ ∀ p, v = .ref p → ∃ ob, w.s.heap.get? p = some ob ∧ ob.dict = none := by
  cases h with
  | str e => subst e; exact ⟨typeIs_str _ _ _, fun u0 e => nomatch e⟩
  | ref z c d => exact ⟨⟨_, z, c⟩, fun p e => by cases e; exact ⟨_, z, d⟩⟩
theorem all_plain : ∀ {args : List Expr} {env : Env} {pos : Pos}, unstarred args = true → (backTo pos (starEach args env)).all (fun x => !x.1) = true := fun {args env pos} h => by
  have := noStar (env := env) (pos := pos) h
  rw [List.any_eq_false] at this
  exact List.all_eq_true.mpr fun x hx => by rw [(Bool.not_eq_true _).mp (this x hx)]; rfl
theorem meth_go {T : String} {nm : Str} {id : String} {apos : Pos} {a : D} {σ₂ : St} (M : MeFacts T nm id) (hT : ∀ {w v}, Inv K.C σ₁ w → Rep K.C w a v → HasT w T v) (ho : TE K ρ (eval o K.env) σ a σ₁) (hl : TA K ρ args pos σ₁ l σ₂) (q : Ok K ρ σ w) {Q : Value → Shared → Prop}
    (h : ∀ v vs w', Step NoF w w' → Ok K ρ σ₂ w' → Rep K.C w' a v → RepL K.C w' l vs → wpAny K.C.M K.A (call (.builtin id) (v :: vs)) Q E w'.s) (hf : (unstarred args && decide (args.length < 30) && (apos.endLine == pos.line)) = true := by rfl) (hb : attributeBase o nm K.env (eval o K.env) = eval o K.env := by rfl) :
    wpAny K.C.M K.A (eval (.Call (.Attribute o nm apos) args [] pos) K.env) Q E w.s := by
  rw [Bool.and_eq_true, Bool.and_eq_true] at hf
  refine wpAny_Call_method hb (by rw [all_plain hf.1.1]; exact hf.1.2) hf.2 M.attrs M.slot M.ty (ho.go q fun v w1 n1 => ?_)
  obtain ⟨t1, t2⟩ := (hT n1.p.I n1.r).is
  exact ⟨t1, t2, callWith_go (v := .builtin id) (first := [v]) rfl hf.1.1 hl n1.p fun vs w2 x2 p2 r2 => h v vs w2 (n1.x.trans x2) p2 (x2.rep n1.r) r2⟩
theorem TE_meth {T : String} {nm : Str} {id : String} {apos : Pos} {a d : D} {σ₂ : St} (M : MeFacts T nm id) (hT : ∀ {w v}, Inv K.C σ₁ w → Rep K.C w a v → HasT w T v) (ho : TE K ρ (eval o K.env) σ a σ₁) (hl : TA K ρ args pos σ₁ l σ₂)
    (h : ∀ {w v vs} {E : Value → Shared → Prop}, Ok K ρ σ₂ w → Rep K.C w a v → RepL K.C w l vs → wpAny K.C.M K.A (call (.builtin id) (v :: vs)) (Out K.C w σ' d) E w.s) (hf : (unstarred args && decide (args.length < 30) && (apos.endLine == pos.line)) = true := by rfl) (hb : attributeBase o nm K.env (eval o K.env) = eval o K.env := by rfl) :
    TE K ρ (eval (.Call (.Attribute o nm apos) args [] pos) K.env) σ d σ' := fun u0 u0 q => meth_go M hT ho hl q (fun v vs w' x p r r' => wpAny_mono (h p r r') (fun u0 u0 o => o.after x) fun u0 u0 e => e) hf hb
theorem has_str {x : Str} {C : Cx} {σ : St} {w : W} {v : Value} (_ : Inv C σ w) : Rep C w (.str x) v → HasT w "str" v := fun ⟨_, e⟩ => e ▸ .str rfl
theorem has_lst {a : D} (i : IsL σ a l) {C : Cx} {w : W} {v : Value} (I : Inv C σ w) (r : Rep C w a v) : HasT w "list" v := by obtain ⟨u1, u2, u3, u4, z, u5⟩ := i.at I r; exact .ref z.is rfl rfl
theorem isDict_has {C : Cx} {κ : Type} [DecidableEq κ] {w : World} {pr : Program} {knd : KeyKind pr w κ} {o : Obj} {kvs : List (κ × Value)} (d : o.IsDictOf knd kvs) : o.dict = none := let ⟨_, _, h1, _⟩ := d; h1.2.1
theorem has_ds {a : D} {l : List (Str × D)} (i : IsS σ a l) {C : Cx} {w : W} {v : Value} (I : Inv C σ w) (r : Rep C w a v) : HasT w "dict" v := by
  obtain ⟨u1, u2, o, kvs, ne, z, d, r⟩ := i.at I r
  obtain ⟨ob, e1, e2⟩ := (ds_mapOf z d).typeIs
  cases z.is.symm.trans e1
  exact .ref z.is e2 (isDict_has (C := C) d)
theorem has_di {a : D} {l : List (Int × D)} (i : IsI σ a l) {C : Cx} {w : W} {v : Value} (I : Inv C σ w) (r : Rep C w a v) : HasT w "dict" v := by
  obtain ⟨u1, u2, o, kvs, ne, z, d, r⟩ := i.at I r
  obtain ⟨ob, e1, e2⟩ := (di_mapOf z d).typeIs
  cases z.is.symm.trans e1
  exact .ref z.is e2 (isDict_has (C := C) d)
end
end Mine
end
section
open PySem PySem.W PyProof.Rows
namespace Mine
theorem mf_items : MeFacts "dict" "items" "dict.items" := ⟨PySem.F.plainAttrs_dict, PySem.F.slot_dict_items, PySem.F.type_dict_items⟩
theorem mf_values : MeFacts "dict" "values" "dict.values" := ⟨PySem.F.plainAttrs_dict, PySem.F.slot_dict_values, PySem.F.type_dict_values⟩
theorem entry_itemiter : entryFor table "dict_itemiterator.__iter__" = some Builtin.«dict_keyiterator.__iter__» := entryFor_alias (id' := "dict_keyiterator.__iter__") (by kernel_rfl) rfl (by decide +kernel) (by kernel_rfl)
section
variable {C : Cx} {A : Around} {w w' : W} {σ σ' : St} {a b : D} {E : Value → Shared → Prop} {l : List (Str × D)}
theorem priv_go {k : Addr} {o o' : Obj} {h : Heap} {t : Tok} (I : Inv C σ w) (z : At w (.mu k) k o) (e : h.get? k = some o') (hs : ∀ b o, b ≠ k → w.s.heap.get? b = some o → h.get? b = some o) :
    Step (· = k) w (w.put [] .fz h t []) ∧ Inv C σ (w.put [] .fz h t []) :=
  have hk : ∀ b o, w.tag b ≠ .mu k → w.s.heap.get? b = some o → h.get? b = some o := fun b o n e => hs b o (fun q => n (q ▸ z.tag)) e
  ⟨.priv hk, I.priv hk fun b u0 ⟨o, q⟩ => by
    by_cases n : b = k
    · exact ⟨o', n ▸ e⟩
    · exact ⟨o, hs b o n q⟩⟩
theorem rep_pair {h : Heap} {t : Tok} {a b : D} {x y : Value} {k : Addr} (I : Inv C σ w) (X : Step (· = k) w (w.put [] .fz h t [])) (e : h.get? w.s.heap.objs.size = some { cls := .type "tuple", data := .seq #[x, y] }) (rx : Rep C (w.put [] .fz h t []) a x) (ry : Rep C (w.put [] .fz h t []) b y) : Rep C (w.put [] .fz h t []) (.tup [a, b]) (.ref w.s.heap.objs.size) :=
  ⟨_, [x, y], 0, ⟨I.dead _ (Heap.fresh0 _), e⟩, x, [y], rx, y, [], ry, rfl⟩
inductive JI (C : Cx) (it : Addr) (l : List (Str × D)) (ds : List D) (w : W) : Prop
  | mk (i : Nat) (a : Addr) (kvs : List (Str × Value)) (ep : Nat) (ok ov : Value) (o od : Obj) (z : At w (.mu it) it o) (hi : IsItemIter w.s.heap it a i kvs.length ep ok ov) (zd : At w .fz a od) (dat : ∀ h : Heap, h.get? a = some od → h.DictAt (strKind C.prog C.w) a kvs ep) (r : RepS C w l kvs)
      (e : ds = (l.map fun p => D.tup [.str p.1, p.2]).drop i) (hz : i ≤ l.length) : JI C it l ds w
theorem itr_items {elts : List Expr} {kk : Nat} {pos : Pos} {it : Addr} (hA : A.handled = none) : Itr C A (.Tuple elts kk pos) (.ref it) it (JI C it l) Nl where
  stable := fun ⟨i, a, kvs, ep, ok, ov, o, od, z, hi, zd, dat, r, e, hz⟩ x nf => by
    have z' := x.mu it nf _ _ z
    have hi' := hi
    unfold IsItemIter at hi'
    cases z.is.symm.trans hi'
    exact ⟨i, a, kvs, ep, ok, ov, _, od, z', z'.is, x.keep _ _ zd, dat, RepS.mono x.toMono _ _ r, e, hz⟩
  item := by
    rintro ds σ w d ds' σ' E I ⟨i, a, kvs, ep, ok, ov, o, od, z, hi, zd, dat, r, e, hz⟩ nl
    cases nl
    have hd : (l.map fun p => D.tup [.str p.1, p.2])[i]? = some d := by rw [← List.head?_drop, ← e]; rfl
    have hds : ds' = (l.map fun p => D.tup [.str p.1, p.2]).drop (i + 1) := by rw [List.drop_add_one_eq_tail_drop, ← e]; rfl
    rw [List.getElem?_map] at hd
    obtain ⟨p, e3, rfl⟩ := Option.map_eq_some_iff.mp hd
    obtain ⟨u, e4, e5⟩ := repK_get (repS_K l ▸ r) e3
    refine wpAny_pyNext_items_item hi (dat _ zd.is) e4 fun key h' hkey hout htup hsz hk => ⟨_, rfl, wpAny_letOwnedTupleGo_items hout fun h'' hit2 hs2 => ?_⟩
    obtain ⟨X, I'⟩ := priv_go (t := w.s.toks) I z hit2 fun b o n e => (hs2.2 b n).trans (hk b o n e)
    have ne : w.s.heap.objs.size ≠ it := fun q => z.ne q.symm
    obtain ⟨t, rfl⟩ := Value.isStrOf_shape hkey
    exact ⟨_, X, I', ⟨i + 1, a, kvs, ep, _, _, _, od, ⟨z.tag, hit2⟩, hit2, X.keep _ _ zd, dat, RepS.mono X.toMono _ _ r, hds, get_lt e3⟩, rep_pair I X ((hs2.2 _ ne).trans htup) ⟨t, rfl⟩ (X.rep e5)⟩
  done := by
    rintro ds σ w ds' σ' E I ⟨i, a, kvs, ep, ok, ov, o, od, z, hi, zd, dat, r, e, hz⟩ nl
    cases nl
    have hl : l.length ≤ i := by have := List.drop_eq_nil_iff.mp e.symm; rwa [List.length_map] at this
    refine wpAny_pyNext_items_end hA hi (dat _ zd.is) (List.getElem?_eq_none_iff.mpr (by rw [repK_len (repS_K l ▸ r)]; exact hl)) fun h' he => ⟨rfl, w, h', w.s.toks, .refl _ _, I, fun b o n e => he b o (fun q => n it (.head _) (q ▸ z.tag)) e⟩
  self := fun ⟨i, a, kvs, ep, ok, ov, o, od, z, hi, _, _, _, _, _⟩ q => wpAny_pyIter_slot ⟨_, hi, rfl⟩ F.slot_dict_itemiterator_iter (wpAny_call_entry F.slot_dict_itemiterator_iter ⟨_, hi, rfl⟩ entry_itemiter (wpAny_pure ⟨_, rfl, "dict_itemiterator", _, ⟨_, hi, rfl⟩, F.slot_dict_itemiterator_next.lookup, q⟩) (F.args_dict_itemiterator_iter_1 _))
theorem dictAt_of {a : Addr} {o : Obj} {kvs : List (Str × Value)} {t : Tag} (z : At w t a o) (d : IsDs C o kvs) : ∃ ep, ∀ h : Heap, h.get? a = some o → h.DictAt (strKind C.prog C.w) a kvs ep := by
  obtain ⟨ep, o', es, e, r⟩ := (ds_mapOf z d).dictAt
  cases z.is.symm.trans e
  exact ⟨ep, fun h e => ⟨o, es, e, r⟩⟩
theorem iter_itemsO {elts : List Expr} {kk : Nat} {pos : Pos} {a V : Addr} (hA : A.handled = none) (I : Inv C σ w) (r : Rep C w (.ds l) (.ref a)) (hv : w.s.heap.IsItemsView V a) : wpAny C.M A (pyIter (.ref V)) (IterO C A (.Tuple elts kk pos) Nl (l.map fun p => .tup [.str p.1, p.2]) w σ) E w.s := by
  obtain ⟨u1, o, kvs, ne, z, d, r⟩ := r
  obtain ⟨ep, dat⟩ := dictAt_of z d
  refine wpAny_pyIter_items (knd := strKind C.prog C.w) hv (dat _ z.is) ?_
  obtain ⟨x2, I2⟩ := new_priv (o := { cls := .type "dict_itemiterator", data := .fields #[.none, .bool false, .ref a, .int 0 0, .int kvs.length 0, .int ep 0, .none, .none] }) (t := w.s.toks) I rfl
  have zk : At (w.put [w.s.heap.objs.size] (.mu w.s.heap.objs.size) (w.s.heap.push { cls := .type "dict_itemiterator", data := .fields #[.none, .bool false, .ref a, .int 0 0, .int kvs.length 0, .int ep 0, .none, .none] }) w.s.toks []) (.mu w.s.heap.objs.size) w.s.heap.objs.size _ := ⟨if_pos (.head _), Heap.get?_push_size _ rfl⟩
  exact ⟨_, _, _, x2, I2, itr_items hA, ⟨0, a, kvs, ep, .none, .none, _, o, zk, zk.is, x2.keep _ _ z, dat, RepS.mono x2.toMono _ _ r, rfl, Nat.zero_le _⟩, .of I (Heap.fresh0 _), ⟨_, zk⟩⟩
theorem iter_valuesO {target : Expr} {a V : Addr} (hA : A.handled = none) (I : Inv C σ w) (r : Rep C w (.ds l) (.ref a)) (hv : w.s.heap.IsValuesView V a) : wpAny C.M A (pyIter (.ref V)) (IterO C A target Nl (l.map (·.2)) w σ) E w.s := by
  obtain ⟨u1, o, kvs, ne, z, d, r⟩ := r
  obtain ⟨ep, dat⟩ := dictAt_of z d
  refine wpAny_pyIter_values (knd := strKind C.prog C.w) hv (dat _ z.is) (iterO_of I rfl (Walks.dictValues (knd := strKind C.prog C.w) hA _ a z.ne kvs ep) (by rw [List.length_map, repK_len (repS_K l ▸ r)]) (fun i s' v Q E st q => let ⟨⟨o, ho, hc, _⟩, _⟩ := st; go_of ho hc (by decide) q)
    (fun i h st => let ⟨⟨o, e, _⟩, _⟩ := st; ⟨o, e⟩) (aux := fun w => RepS C w l kvs) repS_mono (fun i d w v hd r' hv => ?_) r ⟨⟨_, Heap.get?_push_size _ rfl, rfl, rfl⟩, (dat _ z.is).push _⟩ fun b hb => (List.mem_cons.mp hb).imp id fun q => by rw [List.mem_singleton.mp q]; exact ⟨_, z⟩)
  obtain ⟨k', e1⟩ := hv
  rw [List.getElem?_map] at hd
  obtain ⟨p, e3, rfl⟩ := Option.map_eq_some_iff.mp hd
  obtain ⟨u, e4, e5⟩ := repK_get (repS_K l ▸ r') e3
  rw [e1] at e4; cases e4
  exact e5
end
section
variable {K : Ctx} {ρ : Rho} {σ σ' : St} {w : W} {o target : Expr} {apos pos cpos p : Pos} {l : List (Str × D)} {E : Value → Shared → Prop} {x : Str}
theorem view_go {id : String} {T : String} {Q : Value → Shared → Prop} (M : MeFacts "dict" nm id) (ho : TE K ρ (eval o K.env) σ (.ds l) σ') (q : Ok K ρ σ w)
    (hc : ∀ {p : Addr} {w : W} {Q : Value → Shared → Prop}, (p == sysModules) = false → (∃ kvs, w.s.heap.DictOf (strKind K.C.prog K.C.w) p kvs) → Q (.ref w.s.heap.objs.size) { w.s with heap := w.s.heap.push { cls := .type T, data := .fields #[.ref p] }, toks := w.s.toks } → wpAny K.C.M K.A (call (.builtin id) [.ref p]) Q E w.s)
    (hq : ∀ (p : Addr) (vw : Addr) w', Step NoF w w' → Ok K ρ σ' w' → Rep K.C w' (.ds l) (.ref p) → (∃ o, w'.s.heap.get? vw = some o ∧ o.cls = .type T ∧ o.data = .fields #[.ref p]) → Q (.ref vw) w'.s) (hf : (unstarred [] && decide (([] : List Expr).length < 30) && (apos.endLine == pos.line)) = true := by rfl) (hb : attributeBase o nm K.env (eval o K.env) = eval o K.env := by rfl) :
    wpAny K.C.M K.A (eval (.Call (.Attribute o nm apos) [] [] pos) K.env) Q E w.s :=
  meth_go M (has_ds (.z l)) ho (TL_nil (pos := pos)) q (fun v vs w1 x1 p1 r1 r2 => by
    cases r2
    obtain ⟨a, ob, kvs, ne, z, d, r⟩ := r1
    refine hc (w := w1) (ref_sys ne) ⟨kvs, ds_mapOf z d⟩ ?_
    have g := grown (h := w1.s.heap.push { cls := .type T, data := .fields #[.ref a] }) p1.I w1.s.toks fun b o e => Heap.get?_push_of_some _ e
    have hv : (w1.s.heap.push { cls := .type T, data := .fields #[.ref a] }).get? w1.s.heap.objs.size = some { cls := .type T, data := .fields #[.ref a] } := Heap.get?_push_size _ rfl
    revert g
    generalize ({ w1.s with heap := w1.s.heap.push { cls := .type T, data := .fields #[.ref a] }, toks := w1.s.toks } : Shared) = s2
    rintro ⟨w2, x2, I2, e2, _⟩
    exact hq a _ w2 (x1.trans x2) (p1.next x2 I2) (x2.rep ⟨a, ob, kvs, ne, z, d, r⟩) ⟨_, e2 ▸ hv, rfl, rfl⟩) hf hb
theorem items_go {Q : Value → Shared → Prop} (ho : TE K ρ (eval o K.env) σ (.ds l) σ') (q : Ok K ρ σ w) (hq : ∀ (p vw : Addr) w', Step NoF w w' → Ok K ρ σ' w' → Rep K.C w' (.ds l) (.ref p) → w'.s.heap.IsItemsView vw p → Q (.ref vw) w'.s)
    (hf : (unstarred [] && decide (([] : List Expr).length < 30) && (apos.endLine == pos.line)) = true := by rfl) (hb : attributeBase o "items" K.env (eval o K.env) = eval o K.env := by rfl) : wpAny K.C.M K.A (eval (.Call (.Attribute o "items" apos) [] [] pos) K.env) Q E w.s :=
  view_go (T := "dict_items") mf_items ho q (fun ns hd hQ => call_meetsIn PySem.F.slot_dict_items hd.choose_spec.typeIs PySem.F.entry_dict_items (PySem.F.args_dict_items_1 _) (meets_dict_items (strKind K.C.prog K.C.w) _ ns) ⟨hd, hQ⟩) hq hf hb
theorem TI_items {elts : List Expr} {kk : Nat} {tp : Pos} (ho : TE K ρ (eval o K.env) σ (.ds l) σ') (hf : (unstarred [] && decide (([] : List Expr).length < 30) && (apos.endLine == pos.line)) = true := by rfl) (hb : attributeBase o "items" K.env (eval o K.env) = eval o K.env := by rfl) :
    TI K ρ (.Call (.Attribute o "items" apos) [] [] pos) (.Tuple elts kk tp) σ (l.map fun p => .tup [.str p.1, p.2]) σ' := fun u0 u0 q =>
  items_go ho q (fun p vw w1 x1 p1 r1 hv => wpAny_mono (iter_itemsO p1.o.room.handled p1.I r1 hv) (fun u0 u0 o => o.after q.I x1) fun u0 u0 e => e) hf hb
theorem TI_values (ho : TE K ρ (eval o K.env) σ (.ds l) σ') (hf : (unstarred [] && decide (([] : List Expr).length < 30) && (apos.endLine == pos.line)) = true := by rfl) (hb : attributeBase o "values" K.env (eval o K.env) = eval o K.env := by rfl) :
    TI K ρ (.Call (.Attribute o "values" apos) [] [] pos) target σ (l.map (·.2)) σ' := fun u0 u0 q =>
  view_go (T := "dict_values") mf_values ho q (fun ns hd hQ => call_meetsIn PySem.F.slot_dict_values hd.choose_spec.typeIs PySem.F.entry_dict_values (PySem.F.args_dict_values_1 _) (meets_dict_values (strKind K.C.prog K.C.w) _ ns) ⟨hd, hQ⟩)
    (fun p vw w1 x1 p1 r1 hv => wpAny_mono (iter_valuesO p1.o.room.handled p1.I r1 hv) (fun u0 u0 o => o.after q.I x1) fun u0 u0 e => e) hf hb
theorem repL_of {C : Cx} {w : W} {l : List D} : ∀ {vs : List Value}, vs.length = l.length → (∀ (j : Nat) (d : D), l[j]? = some d → ∃ v, vs[j]? = some v ∧ Rep C w d v) → RepL C w l vs := by
  induction l with
  | nil => exact fun {vs} e _ => List.length_eq_zero_iff.mp e
  | cons d l ih =>
    intro vs e f
    cases vs with
    | nil => cases e
    | cons v vs =>
      obtain ⟨v', e1, e2⟩ := f 0 d rfl
      cases e1
      exact ⟨v, vs, e2, ih (Nat.succ.inj e) fun j d h => f (j + 1) d h⟩
theorem callWith_one {v : Value} {e : Expr} (hv : plainVal v = true) (hu : unstarred [e] = true) {Q : Value → Shared → Prop} {s : Shared} (h : wpAny K.C.M K.A (eval e K.env) (fun u s' => wpAny K.C.M K.A (call v [u]) Q E s') E s) : wpAny K.C.M K.A (callWith pos v [] (backTo pos (starEach [e] K.env)) []) Q E s := by
  have key : ∀ {f : Value} {Q' : Args → Shared → Prop}, wpAny K.C.M K.A (eval e K.env) (fun u s' => Q' ⟨[u], []⟩ s') E s → wpAny K.C.M K.A (evalArgs f true (backTo pos (starEach [e] K.env)) []) Q' E s := fun h =>
    evalArgs_spliced (noStar hu) (wpAny_items_cons (e := e) (rest := []) (pos := pos) (wpAny_mono h (fun u s' q => wpAny_items_nil (pos := pos) q) fun u0 u0 e => e) (starEach_cons hu))
  cases v <;> first | (cases hv; done) | skip
  · exact PyProof.Rows.callWith_type (noStar hu) (key h)
  · exact Calls.callWith_builtin (noStar hu) (key h)
theorem TE_listItems (hb : Bi K.C x (.type "list")) (hk : K.fd.glob x = true) (ho : TE K ρ (eval o K.env) σ (.ds l) σ') (hz : l.length ≤ 1000000) (hf : (unstarred [] && decide (([] : List Expr).length < 30) && (apos.endLine == pos.line)) = true := by rfl) (hb' : attributeBase o "items" K.env (eval o K.env) = eval o K.env := by rfl) :
    TE K ρ (eval (.Call (.Name x p) [.Call (.Attribute o "items" apos) [] [] pos] [] cpos) K.env) σ (.lst (l.map fun p => .tup [.str p.1, p.2])) σ' := fun u0 u0 q => by
  refine wpAny_Call_Name_kw (builtin_ok q hk hb (callWith_one rfl rfl (items_go ho q (fun p vw w1 x1 p1 r1 hv => ?_) hf hb')))
  obtain ⟨u1, ob, kvs, ne, z, d, r⟩ := r1
  obtain ⟨ep, dat⟩ := dictAt_of z d
  have hzl := repK_len (repS_K l ▸ r)
  refine kdx_call p1.o.room.handled hv (dat _ z.is) (by rw [sizeLine_is, hzl]; omega) fun h' tk acc c as hk hS hl hG hacc => ?_
  have x2 : Step NoF w1 (w1.put [] .fz h' tk []) := .grow hk
  have df : ∀ b, w1.s.heap.objs.size ≤ b → w1.tag b = .fz := fun b hb => p1.I.dead b (dead_of fun ⟨o, e⟩ => Nat.not_lt.mpr hb (Heap.lt_size e))
  refine ⟨_, x1.trans x2, p1.I.grow hk, ⟨_, acc.toList, c, ⟨df _ (Nat.le_refl _), hS⟩, ?_⟩⟩
  rw [hacc]
  refine repL_of (by rw [List.length_map, List.length_map, hl, hzl]) fun j d hj => ?_
  rw [List.getElem?_map] at hj
  obtain ⟨q, e3, rfl⟩ := Option.map_eq_some_iff.mp hj
  obtain ⟨u, e4, e5⟩ := repK_get (repS_K l ▸ r) e3
  have hj' : j < as.length := by rw [hl]; exact get_lt e4
  obtain ⟨key, kk, y, f1, f2, f3⟩ := hG.pairs j _ (List.getElem?_eq_getElem hj')
  rw [e4] at f1; cases f1
  obtain ⟨t, rfl⟩ := Value.isStrOf_shape f2
  exact ⟨.ref as[j], by rw [List.getElem?_map, List.getElem?_eq_getElem hj']; rfl, _, [_, _], 0, ⟨df _ (Nat.le_of_lt (hG.above _ (List.getElem_mem hj'))), f3⟩, _, _, ⟨t, rfl⟩, _, _, x2.rep e5, rfl⟩
end
end Mine
end
section
open PySem PySem.W PyProof.Rows
namespace Mine
section
variable {prog : Program} {w : World} {A : Around} {E : Value → Shared → Prop} {s : Shared}
theorem nextOf_tuple_item {it t : Addr} {i : Nat} {items} {x : Value} {Q : Value → Shared → Prop} (hit : s.heap.IsTupleIter it t i)
    (ht : s.heap.IsTuple t items) (hx : items[i]? = some x)
    (hQ : ∀ h', h'.IsTupleIter it t (i + 1) → Heap.SameBut it s.heap h' → Q x { s with heap := h' }) :
    wpAny (model prog w) A (Builtin.SmallTypes.nextOf (.ref it)) Q E s := by
  obtain ⟨o, ho, hc, hd⟩ := id hit
  obtain ⟨ol, hol, u1, nl, hdl⟩ := ht
  unfold Builtin.SmallTypes.nextOf
  refine wpAny_bind (wpAny_callSpecial?_slot (name := Str.ofString "__next__") hit.typeIs F.slot_tuple_iterator_next
    (wpAny_call_entry F.slot_tuple_iterator_next hit.typeIs F.entry_tuple_iterator_next ?_ (F.args_tuple_iterator_next_1 _)))
  show wpAny _ _ (field (.ref it) 0 >>= _) _ _ s
  refine wpAny_bind (wpAny_field ho hd (x := .ref t) rfl ?_)
  show wpAny _ _ (if (Value.ref t == Value.none) = true then _ else _) _ _ s
  rw [if_neg (show ¬ ((Value.ref t == Value.none) = true) from Bool.false_ne_true)]
  show wpAny _ _ (field (.ref it) 1 >>= _) _ _ s
  refine wpAny_bind (wpAny_field ho hd (x := .int i 0) rfl ?_)
  show wpAny _ _ (seqItems? (.ref t) >>= _) _ _ s
  refine wpAny_bind (wpAny_seqItems hol hdl ?_)
  simp only [Int.toNat_natCast, hx]
  refine wpAny_bind (wpAny_setField ho hd (by simp) (wpAny_pure ⟨x, rfl, wpAny_pure (hQ _ ?_ (Heap.SameBut.update ..))⟩))
  exact ⟨_, Heap.get?_update_self _ ho (Obj.isFreed_of_fields (Obj.data_mapFields hd _)), (Obj.cls_mapFields ..).trans hc, by
    rw [Obj.data_mapFields hd]; simp [rawInt]⟩
theorem nextOf_tuple_end {it t : Addr} {i : Nat} {items} {Q : Value → Shared → Prop} (hh : A.handled = none)
    (hit : s.heap.IsTupleIter it t i) (ht : s.heap.IsTuple t items) (hx : items[i]? = none)
    (hE : ∀ h' e, Heap.ExtBut it s.heap h' → (∃ o, h'.get? e = some o ∧ o.cls = .type "StopIteration") → E (.ref e) { s with heap := h' }) :
    wpAny (model prog w) A (Builtin.SmallTypes.nextOf (.ref it)) Q E s := by
  obtain ⟨o, ho, hc, hd⟩ := id hit
  obtain ⟨ol, hol, u1, nl, hdl⟩ := ht
  unfold Builtin.SmallTypes.nextOf
  refine wpAny_bind (wpAny_callSpecial?_slot (name := Str.ofString "__next__") hit.typeIs F.slot_tuple_iterator_next
    (wpAny_call_entry F.slot_tuple_iterator_next hit.typeIs F.entry_tuple_iterator_next ?_ (F.args_tuple_iterator_next_1 _)))
  show wpAny _ _ (field (.ref it) 0 >>= _) _ _ s
  refine wpAny_bind (wpAny_field ho hd (x := .ref t) rfl ?_)
  show wpAny _ _ (if (Value.ref t == Value.none) = true then _ else _) _ _ s
  rw [if_neg (show ¬ ((Value.ref t == Value.none) = true) from Bool.false_ne_true)]
  show wpAny _ _ (field (.ref it) 1 >>= _) _ _ s
  refine wpAny_bind (wpAny_field ho hd (x := .int i 0) rfl ?_)
  show wpAny _ _ (seqItems? (.ref t) >>= _) _ _ s
  refine wpAny_bind (wpAny_seqItems hol hdl ?_)
  simp only [Int.toNat_natCast, hx]
  refine wpAny_bind (wpAny_rule (wpAny_bind (wpAny_setField ho hd (by simp) ?_)))
  show wpAny _ _ (newExc (.type "StopIteration") [] >>= _) _ _ _
  refine wpAny_bind ?_
  simp only [newExc, newTuple]
  refine wpAny_bind (wpAny_newObj_type ?_ (by size_fits))
  refine wpAny_bind (m := firstArgMember _ _) (wpAny_of_eq (a := Value.none) (by first | rfl | (simp only [firstArgMember]; rfl)) ?_)
  refine wpAny_newObj_type ?_ (by size_fits)
  simp only [raiseNew]
  refine wpAny_bind (wpAny_handled ?_)
  first | rw [show A.in1.handled = none from hh] | rw [hh]
  refine wpAny_bind (wpAny_pure (wpAny_throw ?_))
  exact hE _ _ (((Heap.SameBut.update ..).extBut.push _).push _) ⟨_, Heap.get?_push_size _ rfl, rfl⟩
theorem Draws_tuple (hh : A.handled = none) (it l : Addr) (hne : l ≠ it) (items : Array Value) :
    Draws prog w A it [it, l] items.size (fun i v => items[i]? = some v) (fun i h => h.IsTupleIter it l i ∧ h.IsTuple l items) where
  live := fun u0 u0 st => let ⟨o, ho, _⟩ := st.1; ⟨o, ho⟩
  frame := fun u0 u0 u0 st hk => by
    obtain ⟨⟨o, h1, h2⟩, ⟨p, h3, h4⟩⟩ := st
    exact ⟨⟨o, hk it (by simp) o h1, h2⟩, ⟨p, hk l (by simp) p h3, h4⟩⟩
  item := fun i s Q E hi st hQ => by
    refine nextOf_tuple_item st.1 st.2 (x := items[i]) (by simp [hi]) fun h' hit' hs' => ?_
    exact hQ _ h' s.toks (by simp [hi]) ⟨hit', st.2.extBut hs'.extBut hne⟩ hs'
  done := fun s Q E st hE => nextOf_tuple_end hh st.1 st.2 (by simp) hE
theorem meets_enumerate_newT (l : Addr) (items : Array Value) (n : Nat) (dct : Option Addr) (sl : Array (Option Value)) :
    Meets (Builtin.«enumerate.__new__» ⟨[.type "enumerate", .ref l], []⟩) (fun u0 R s => s.heap.get? l = some { cls := .type "tuple", dict := dct, data := .seq items n, slots := sl } ∧
      R (.ok (.ret (.ref (s.heap.push { cls := .type "tuple_iterator", data := .fields #[.ref l, .int 0 0] }).objs.size)))
        { s with heap := (s.heap.push { cls := .type "tuple_iterator", data := .fields #[.ref l, .int 0 0] }).push { cls := .type "enumerate", data := .fields #[.none, .bool false, .ref s.heap.objs.size, rawInt 0, .none, .none] } }) :=
  .of_wp fun prog w A R s h => by
    obtain ⟨hp, g, d, tk, os⟩ := s; obtain ⟨hl, h⟩ := h
    have hsub := sub_enumerate
    have hL : Heap.IsTuple (Shared.heap ⟨hp, g, d, tk, os⟩) l items := ⟨_, hl, rfl, n, rfl⟩
    wp_walk using AutoSeq1.wpAny_loadPart' hl
    refine wpAny_stack_any fun st => wpAny_pure ?_
    split
    · rename_i c _ _ _ _ _
      cases (c == Value.type "enumerate")
      · wp_walk using AutoSeq1.wpAny_loadPart' hl, wpAny_pyIter_tuple hL
        exact ⟨_, rfl, h⟩
      · wp_walk using AutoSeq1.wpAny_loadPart' hl, wpAny_pyIter_tuple hL
        exact ⟨_, rfl, h⟩
    · wp_walk using AutoSeq1.wpAny_loadPart' hl, wpAny_pyIter_tuple hL
      exact ⟨_, rfl, h⟩
theorem call_enumerate_tuple {l : Addr} {items : Array Value} {Q : Value → Shared → Prop} (hL : s.heap.IsTuple l items)
    (h : ∀ h', IsEnum h' (s.heap.objs.size + 1) s.heap.objs.size 0 .none → h'.IsTupleIter s.heap.objs.size l 0 → h'.objs.size = s.heap.objs.size + 2 →
      (∀ b o, s.heap.get? b = some o → h'.get? b = some o) → Q (.ref (s.heap.objs.size + 1)) { s with heap := h' }) :
    wpAny (model prog w) A (call (.type "enumerate") [.ref l]) Q E s := by
  obtain ⟨⟨c, dct, dt, sl⟩, hl, hc, n, hd⟩ := hL
  replace hc : c = .type "tuple" := hc
  replace hd : dt = .seq items n := hd
  subst hc hd
  refine callType_new F.called_enumerate (by decide) (F.typeCall_enumerate_1 _) (F.newCall_enumerate_1 _) (fun obj => F.args_object_init_2 obj _) F.entry_enumerate_new
    (meets_enumerate_newT l items n dct sl) ⟨hl, ?_⟩
  have hz : (s.heap.push { cls := .type "tuple_iterator", data := .fields #[.ref l, .int 0 0] }).objs.size = s.heap.objs.size + 1 := Heap.size_push ..
  show _ ∧ _
  rw [hz]
  have he : IsEnum ((s.heap.push { cls := .type "tuple_iterator", data := .fields #[.ref l, .int 0 0] }).push
      { cls := .type "enumerate", data := .fields #[.none, .bool false, .ref s.heap.objs.size, rawInt 0, .none, .none] }) (s.heap.objs.size + 1) s.heap.objs.size 0 .none := by
    have := Heap.get?_push_size (s.heap.push { cls := .type "tuple_iterator", data := .fields #[.ref l, .int 0 0] })
      (o := { cls := .type "enumerate", data := .fields #[.none, .bool false, .ref s.heap.objs.size, rawInt 0, .none, .none] }) rfl
    rw [hz] at this; exact this
  refine ⟨⟨_, he, rfl⟩, h _ he ⟨_, Heap.get?_push_of_some _ (Heap.get?_push_size _ rfl), rfl, rfl⟩ (by rw [Heap.size_push, hz]) fun b o x => Heap.get?_push_of_some _ (Heap.get?_push_of_some _ x)⟩
end
noncomputable def enumD (l : List D) : List D := l.zipIdx.map fun p => .tup [.int (p.2 : Int), p.1]
theorem enumD_map {α : Type} (f : α → D) (xs : List α) : enumD (xs.map f) = xs.zipIdx.map fun p => .tup [.int (p.2 : Int), f p.1] := by
  unfold enumD
  rw [List.zipIdx_map, List.map_map]; rfl
section
variable {C : Cx} {A : Around} {w w' : W} {σ σ' : St} {E : Value → Shared → Prop} {ds : List D} {n : Nat} {P : Nat → Value → Prop} {S0 : Nat → Heap → Prop} {aux : W → Prop} {fp : List Addr}
theorem enumD_get (l : List D) (i : Nat) : (enumD l)[i]? = (l[i]?).map fun d => .tup [.int (i : Int), d] := by
  unfold enumD
  rw [List.getElem?_map, List.getElem?_zipIdx, Option.map_map, Nat.zero_add]; rfl
theorem enumD_len (l : List D) : (enumD l).length = l.length := by
  unfold enumD
  rw [List.length_map, List.length_zipIdx]
inductive JE (e it : Addr) (fp : List Addr) (S0 : Nat → Heap → Prop) (aux : W → Prop) (ds l : List D) (w : W) : Prop
  | mk (i : Nat) (old : Value) (oe oi : Obj) (ze : At w (.mu e) e oe) (he : IsEnum w.s.heap e it i old) (zi : At w (.mu e) it oi) (st : S0 i w.s.heap) (a : aux w) (f : ∀ b ∈ fp, b = it ∨ ∃ o, At w .fz b o) (el : l = (enumD ds).drop i) (hz : i ≤ ds.length) : JE e it fp S0 aux ds l w
theorem itr_enum {elts : List Expr} {kk : Nat} {pos : Pos} {e it : Addr} (Dr : Draws C.prog C.w A.in1 it fp n P S0) (hne : e ≠ it) (hef : e ∉ fp) (hn : ds.length = n) (haux : ∀ w w', Mono w w' → aux w → aux w') (hP : ∀ i d w v, ds[i]? = some d → aux w → P i v → Rep C w d v) :
    Itr C A (.Tuple elts kk pos) (.ref e) e (JE e it fp S0 aux ds) Nl where
  stable := fun ⟨i, old, oe, oi, ze, he, zi, st, a, f, el, hz⟩ x nf => by
    have ze' := x.mu e nf _ _ ze
    have zi' := x.mu e nf _ _ zi
    have he' := he
    unfold IsEnum at he'
    cases ze.is.symm.trans he'
    exact ⟨i, old, _, oi, ze', ze'.is, zi', Dr.frame _ _ _ st fun b hb o q => (f b hb).elim (fun e => by subst e; cases zi.is.symm.trans q; exact zi'.is) fun ⟨o', z⟩ => by cases z.is.symm.trans q; exact (x.keep _ _ z).is, haux _ _ x.toMono a,
      fun b hb => (f b hb).imp id fun ⟨o, z⟩ => ⟨o, x.keep _ _ z⟩, el, hz⟩
  item := by
    rintro l σ w d l' σ' E I ⟨i, old, oe, oi, ze, he, zi, st, a, f, el, hz⟩ nl
    cases nl
    have hd : (enumD ds)[i]? = some d := by rw [← List.head?_drop, ← el]; rfl
    have hl : l' = (enumD ds).drop (i + 1) := by rw [List.drop_add_one_eq_tail_drop, ← el]; rfl
    rw [enumD_get] at hd
    obtain ⟨d', e3, rfl⟩ := Option.map_eq_some_iff.mp hd
    refine wpAny_pyNext_enum_itemD Dr he st (hn ▸ get_lt e3) hne hef fun x h' tk hPx hout hst htup hsz hk => ⟨_, rfl, wpAny_letOwnedTupleGo_enum hout fun h'' he2 hs2 => ?_⟩
    have hk' : ∀ b o, w.tag b ≠ .mu e → w.s.heap.get? b = some o → h''.get? b = some o := fun b o nt q => (hs2.2 b fun y => nt (y ▸ ze.tag)).trans (hk b o (fun y => nt (y ▸ ze.tag)) (fun y => nt (y ▸ zi.tag)) q)
    have hst2 : S0 (i + 1) h'' := Dr.frame _ _ _ hst fun b hb o y => (hs2.2 b fun q => hef (q ▸ hb)).trans y
    obtain ⟨oi', gi⟩ := Dr.live _ _ hst2
    have X : Step (· = e) w (w.put [] .fz h'' (tk + 1) []) := .priv hk'
    have ne2 : w.s.heap.objs.size ≠ e := fun q => ze.ne q.symm
    refine ⟨w.put [] .fz h'' (tk + 1) [], X, I.priv hk' fun b q ⟨o, y⟩ => ?_, ⟨i + 1, x, _, oi', ⟨ze.tag, he2⟩, he2, ⟨zi.tag, gi⟩, hst2, haux _ _ X.toMono a, fun b hb => (f b hb).imp id fun ⟨o, z⟩ => ⟨o, X.keep _ _ z⟩, hl, get_lt e3⟩, rep_pair I X ((hs2.2 _ ne2).trans htup) ⟨tk, rfl⟩ (hP i d' _ x e3 (haux _ _ X.toMono a) hPx)⟩
    by_cases q1 : b = e
    · exact ⟨_, q1 ▸ he2⟩
    · by_cases q2 : b = it
      · exact ⟨_, q2 ▸ gi⟩
      · exact ⟨o, (hs2.2 b q1).trans (hk b o q1 q2 y)⟩
  done := by
    rintro l σ w l' σ' E I ⟨i, old, oe, oi, ze, he, zi, st, a, f, el, hz⟩ nl
    cases nl
    have : i = n := hn ▸ Nat.le_antisymm hz (enumD_len ds ▸ List.drop_eq_nil_iff.mp el.symm)
    subst this
    exact wpAny_pyNext_enum_endD (prog := C.prog) (w := C.w) Dr he st fun h' hk => ⟨rfl, w, h', w.s.toks, .refl _ _, I, fun b o nt q => hk b o (fun y => nt e (.head _) (y ▸ zi.tag)) q⟩
  self := fun ⟨i, old, oe, oi, ze, he, _, _, _, _, _, _⟩ q => wpAny_pyIter_enum he q
theorem enum_start {elts : List Expr} {kk : Nat} {pos : Pos} {h' : Heap} (Dr : Draws C.prog C.w A.in1 w.s.heap.objs.size fp n P S0) (hn : ds.length = n) (haux : ∀ w w', Mono w w' → aux w → aux w') (hP : ∀ i d w v, ds[i]? = some d → aux w → P i v → Rep C w d v) (I : Inv C σ w) (h0 : aux w)
    (he : IsEnum h' (w.s.heap.objs.size + 1) w.s.heap.objs.size 0 .none) (hst : S0 0 h') (hk : ∀ b o, w.s.heap.get? b = some o → h'.get? b = some o) (hfp : ∀ b ∈ fp, b = w.s.heap.objs.size ∨ ∃ o, At w .fz b o) :
    wpAny C.M A (pyIter (.ref (w.s.heap.objs.size + 1))) (IterO C A (.Tuple elts kk pos) Nl (enumD ds) w σ) E { w.s with heap := h' } := by
  refine wpAny_pyIter_enum he ?_
  have f0 := Heap.fresh0 w.s.heap
  have f1 : w.s.heap.get? (w.s.heap.objs.size + 1) = none := dead_of fun ⟨o, q⟩ => Nat.not_succ_lt_self (Heap.lt_size q)
  obtain ⟨oi, gi⟩ := Dr.live _ _ hst
  generalize w.s.heap.objs.size = it at *
  have hne : it + 1 ≠ it := Nat.succ_ne_self it
  have hA : ∀ b ∈ [it + 1, it], w.s.heap.get? b = none := fun b m => (List.mem_cons.mp m).elim (fun q => q ▸ f1) fun m => List.mem_singleton.mp m ▸ f0
  have c : Chg NoX w (w.put [it + 1, it] (.mu (it + 1)) h' w.s.toks []) := .put fun t u0 b o z => ⟨fun m => z.alive.no (hA b m), hk b o z.is⟩
  have x := c.step (F := NoF) id fun u0 => id
  have te : (w.put [it + 1, it] (.mu (it + 1)) h' w.s.toks []).tag (it + 1) = .mu (it + 1) := if_pos (.head _)
  have I2 := I.put c id (fun u0 => id) (fun b m => (List.mem_cons.mp m).elim (fun q => ⟨_, q ▸ he⟩) fun m => ⟨_, List.mem_singleton.mp m ▸ gi⟩) (fun b ⟨o, e⟩ => ⟨o, hk b o e⟩) (fun b m q => nomatch (I.dead b (hA b m)).symm.trans q) (fun j e => by cases e; exact ⟨_, te, he⟩) fun u0 e => nomatch e
  exact ⟨w.put [it + 1, it] (.mu (it + 1)) h' w.s.toks [], it + 1, _, x, I2, itr_enum Dr hne (fun m => (hfp _ m).elim (fun q => hne q) fun ⟨o, z⟩ => z.alive.no f1) hn haux hP,
    ⟨0, .none, _, oi, ⟨te, he⟩, he, ⟨if_pos (.tail _ (.head _)), gi⟩, hst, haux _ _ x.toMono h0, fun b hb => (hfp b hb).imp id fun ⟨o, z⟩ => ⟨o, x.keep _ _ z⟩, rfl, Nat.zero_le _⟩, .of I f1, ⟨_, te, he⟩⟩
noncomputable def EnumOk (d : D) (ds : List D) : Prop := ∀ ⦃C : Cx⦄ ⦃A : Around⦄ ⦃σ : St⦄ ⦃w : W⦄ ⦃v : Value⦄ ⦃elts : List Expr⦄ ⦃kk : Nat⦄ ⦃pos : Pos⦄ ⦃E : Value → Shared → Prop⦄, A.handled = none → Inv C σ w → Rep C w d v →
  wpAny C.M A (call (.type "enumerate") [v]) (fun x s1 => wpAny C.M A (pyIter x) (IterO C A (.Tuple elts kk pos) Nl (enumD ds) w σ) E s1) E w.s
theorem enum_tup {l : List D} : EnumOk (.tup l) l := fun C A σ w v elts kk pos E hh I ⟨a, vs, n, z, r⟩ => call_enumerate_tuple (items := vs.toArray) ⟨_, z.is, rfl, n, rfl⟩ fun h' he hit hsz hk =>
  enum_start (Draws_tuple (show A.in1.handled = none from hh) _ a z.ne vs.toArray) (by rw [List.size_toArray, r.length]) (aux := fun w => RepL _ w l vs) repL_mono (fun i d w v hd r' hv => let ⟨_, e1, e2⟩ := r'.get hd; by cases e1.symm.trans (List.getElem?_toArray.symm.trans hv); exact e2) I r he ⟨hit, ⟨_, hk _ _ z.is, rfl, n, rfl⟩⟩ hk fun b hb => (List.mem_cons.mp hb).imp id fun q => by rw [List.mem_singleton.mp q]; exact ⟨_, z⟩
theorem enum_lst {l : List D} : EnumOk (.lst l) l := fun C A σ w v elts kk pos E hh I ⟨a, vs, n, z, r⟩ => call_enumerate_list (items := vs.toArray) ⟨_, z.is, rfl, n, rfl⟩ fun h' he hit hsz hk =>
  enum_start (Draws.list (show A.in1.handled = none from hh) _ a z.ne vs.toArray) (by rw [List.size_toArray, r.length]) (aux := fun w => RepL _ w l vs) repL_mono (fun i d w v hd r' hv => let ⟨_, e1, e2⟩ := r'.get hd; by cases e1.symm.trans (List.getElem?_toArray.symm.trans hv); exact e2) I r he ⟨hit, ⟨_, hk _ _ z.is, rfl, n, rfl⟩⟩ hk fun b hb => (List.mem_cons.mp hb).imp id fun q => by rw [List.mem_singleton.mp q]; exact ⟨_, z⟩
theorem enum_str {x : Str} : EnumOk (.str x) (signs x) := fun C A σ w v elts kk pos E hh I ⟨t, e⟩ => by
  subst e
  refine call_enumerate_str fun h' he hit hsz hk => ?_
  have hP : ∀ i d (w : W) v, (signs x)[i]? = some d → True → (∃ c u, x.cps[i]? = some c ∧ v = .str ⟨#[c]⟩ u) → Rep C w d v := fun i d w v hd u0 hv => by
    unfold signs at hd
    rw [List.getElem?_map] at hd
    obtain ⟨c, e, rfl⟩ := Option.map_eq_some_iff.mp hd
    obtain ⟨c', u, e', rfl⟩ := hv
    cases (Array.getElem?_toList.symm.trans e).symm.trans e'
    exact ⟨u, rfl⟩
  have len : (signs x).length = x.cps.size := List.length_map ..
  cases ha : x.cps.all (· < 128)
  · rw [show strIterType x = "str_iterator" by unfold strIterType; rw [ha]; rfl] at hit
    exact enum_start (Draws.strWide (show A.in1.handled = none from hh) _ x t) len (aux := fun u0 => True) (fun u0 u0 u0 h => h) hP I trivial he hit hk fun b hb => .inl (List.mem_singleton.mp hb)
  · rw [show strIterType x = "str_ascii_iterator" by unfold strIterType; rw [ha]; rfl] at hit
    exact enum_start (Draws.strAscii (show A.in1.handled = none from hh) _ x t) len (aux := fun u0 => True) (fun u0 u0 u0 h => h) hP I trivial he hit hk fun b hb => .inl (List.mem_singleton.mp hb)
theorem TI_enum {K : Ctx} {ρ : Rho} {x : Str} {p pos tp : Pos} {e : Expr} {elts : List Expr} {kk : Nat} {d : D} (hb : Bi K.C x (.type "enumerate")) (hk : K.fd.glob x = true) (he : TE K ρ (eval e K.env) σ d σ') (h : EnumOk d ds) (hu : unstarred [e] = true := by rfl) : TI K ρ (.Call (.Name x p) [e] [] pos) (.Tuple elts kk tp) σ (enumD ds) σ' := fun u0 u0 q =>
  wpAny_Call_Name_kw (builtin_ok q hk hb (callWith_go (first := []) rfl hu (TL_cons hu he TL_nil) q fun vs w1 x1 p1 ⟨v, _, r, e'⟩ => by
    cases e'
    exact wpAny_mono (h p1.o.room.handled p1.I r) (fun u s2 h => wpAny_mono h (fun u0 u0 o => o.after q.I x1) fun u0 u0 e => e) fun u0 u0 e => e))
end
end Mine
end
section
open PySem PySem.W PyProof.Rows
namespace Mine
section
variable {C : Cx} {A : Around} {w w' : W} {σ σ' : St} {a d : D} {l : List D} {v : Value} {vs : List Value} {E : Value → Shared → Prop} {n : Nat}
theorem bi_len (i : IsL σ a l) (hz : l.length ≤ 16777216) (I : Inv C σ w) : RepL C w [a] vs → wpAny C.M A (call (.builtin "len") vs) (Out C w σ (.int (l.length : Int))) E w.s := fun ⟨v, _, r, e⟩ => by
  subst e
  obtain ⟨u1, p, vs, k, z, r⟩ := i.at I r
  refine Calls.call_len_list (items := vs.toArray) ⟨_, z.is, rfl, k, rfl⟩ (by rw [List.size_toArray, r.length]; omega) ?_
  rw [List.size_toArray, r.length]
  exact out_int I _ _ _
theorem out_grown {h : Heap} {tk : Tok} (I : Inv C σ w) (hk : ∀ b o, w.s.heap.get? b = some o → h.get? b = some o) (r : Rep C (w.put [] .fz h tk []) d v) : Out C w σ d v { w.s with heap := h, toks := tk } := ⟨_, .grow hk, I.grow hk, r⟩
theorem ints_at {p : Addr} {k : Nat} {ns : List Int} (z : w.s.heap.get? p = some (seqObj "list" vs k)) (r : RepL C w (ns.map .int) vs) : ∃ xs, w.s.heap.IsList p (intItems xs) ∧ ns = xs.toList.map (·.1) := by
  have hi := repL_ints r
  obtain ⟨xs, hx⟩ := hi.allInts.items
  exact ⟨xs, hx ▸ ⟨_, z, rfl, k, rfl⟩, by rw [← nums_intItems, ← hx]; exact hi.numsOf.symm⟩
theorem bi_sum {ns : List Int} (i : IsL σ a (ns.map .int)) (hA : A.handled = none) (I : Inv C σ w) : RepL C w [a] vs → wpAny C.M A (call (.builtin "sum") vs) (Out C w σ (.int ns.sum)) E w.s := fun ⟨v, _, r, e⟩ => by
  subst e
  obtain ⟨u1, p, vs, k, z, r⟩ := i.at I r
  obtain ⟨xs, hl, e⟩ := ints_at z.is r
  refine sum_intListG hA hl fun h' tk t' hk => out_grown I hk ⟨t', ?_⟩
  rw [preSum_eq, e, List.take_of_length_le (by rw [List.length_map, Array.length_toList]; exact Nat.le_refl _)]
theorem strsAre_of : ∀ {ts : List (Str × Tok)}, StrsAre (strValues ts) (ts.map (·.1))
  | [] => .nil
  | _ :: _ => .cons _ _ strsAre_of
theorem strsAre_rep : ∀ {vs : List Value} {ss : List Str}, StrsAre vs ss → RepL C w (ss.map .str) vs
  | _, _, .nil => rfl
  | _, _, .cons x t r => ⟨_, _, ⟨t, rfl⟩, strsAre_rep r⟩
theorem bi_int {b : Bool} (I : Inv C σ w) : RepL C w [.bool b] vs → wpAny C.M A (call (.type "int") vs) (Out C w σ (.int (if b then 1 else 0))) E w.s := fun ⟨_, _, e, e'⟩ => by cases e; cases e'; exact call_int_bool (out_int I _ _ _)
theorem bi_ord {c : Nat} (I : Inv C σ w) : RepL C w [.str ⟨#[c]⟩] vs → wpAny C.M A (call (.builtin "ord") vs) (Out C w σ (.int (c : Int))) E w.s := fun ⟨_, _, ⟨t, e⟩, e'⟩ => by cases e; cases e'; exact PyProof.Rows.ord_of_one rfl (out_int I _ _ _)
theorem bi_chr {c : Nat} (hc : c ≤ 1114111) (I : Inv C σ w) : RepL C w [.int (c : Int)] vs → wpAny C.M A (call (.builtin "chr") vs) (Out C w σ (.str ⟨#[c]⟩)) E w.s := fun ⟨_, _, ⟨t, e⟩, e'⟩ => by
  cases e; cases e'; exact PyProof.Rows.chr_of_range (by omega) (by omega) (out_str I _ _ _)
theorem bi_hex {i : Int} (hz : (baseText "0x" 16 i).length ≤ 16777216) (I : Inv C σ w) : RepL C w [.int i] vs → wpAny C.M A (call (.builtin "hex") vs) (Out C w σ (.str (baseText "0x" 16 i))) E w.s := fun ⟨_, _, ⟨t, e⟩, e'⟩ => by
  cases e; cases e'; exact P.hex_of_int (out_str I _ _ _) (by rw [sizeLine_is]; exact hz)
theorem out_new {o : Obj} {c : AO} {t : Tok} (I : Inv C σ w) (hf : o.isFreed = false) (ok : ∀ w', Mono w w' → At w' (.ob σ.length) w.s.heap.objs.size o → AOk C w' σ.length c w.s.heap.objs.size) :
    Out C w (σ ++ [c]) (.loc σ.length) (.ref w.s.heap.objs.size) { w.s with heap := w.s.heap.push o, toks := t } := by
  have f0 := Heap.fresh0 w.s.heap
  have hk : ∀ b o', w.s.heap.get? b = some o' → (w.s.heap.push o).get? b = some o' := fun b o' e => Heap.get?_push_of_some _ e
  have hg := Heap.get?_push_size w.s.heap hf
  generalize w.s.heap.objs.size = a at f0 hg ok ⊢
  have c1 : Chg NoX w (w.put [a] (.ob σ.length) (w.s.heap.push o) t [a]) := .put fun t u0 b o z => ⟨fun m => z.alive.no (List.mem_singleton.mp m ▸ f0), hk b o z.is⟩
  have x := c1.step (F := NoF) id fun u0 => id
  exact ⟨_, x, I.new c1 (fun b m => List.mem_singleton.mp m ▸ ⟨_, hg⟩) (fun b ⟨o, e⟩ => ⟨o, hk b o e⟩) (fun b m q => nomatch (I.dead b (List.mem_singleton.mp m ▸ f0)).symm.trans q) (ok _ x.toMono ⟨if_pos (.head _), hg⟩),
    a, by show (w.mn ++ [a])[σ.length]? = _; rw [← I.len, List.getElem?_append_right (Nat.le_refl _), Nat.sub_self]; rfl, rfl⟩
theorem bi_iter (I : Inv C σ w) : RepL C w [.lst l] vs → wpAny C.M A (call (.builtin "iter") vs) (Out C w (σ ++ [.it l]) (.loc σ.length)) E w.s := fun ⟨v, _, r, e⟩ => by
  subst e
  obtain ⟨p, vs, k, z, r⟩ := r
  refine Calls.call_function_entry (by decide +kernel) (by decide +kernel) kdk_entry_iter (kdk_args_iter _) ?_
  unfold Builtin.«iter»
  refine wpAny_bind (m := someArgs "iter" 1 2 _) (wpAny_of_eq (a := [Value.ref p]) (by first | rfl | kernel_rfl!) ?_)
  show wpAny _ _ (pyIter (.ref p) >>= _) _ _ _
  refine wpAny_bind (wpAny_pyIter_list (items := vs.toArray) ⟨_, z.is, rfl, k, rfl⟩ (wpAny_pure ⟨_, rfl, out_new (t := w.s.toks) (c := .it l) I rfl fun w' M z' => .on p vs k 0 z' (M.keep _ _ z) ?_⟩))
  rw [List.drop_zero]; exact RepL.mono M _ _ r
end
end Mine
end
section
open PySem PySem.W PyProof.Rows
namespace Mine
section
variable {prog : Program} {w : World} {A : Around} {E : Value → Shared → Prop} {s : Shared} {it li : Addr} {i : Nat}
theorem wp_stop {α : Type} {Q : α → Shared → Prop} (hh : A.handled = none) (h : ∀ h' e, (∀ b o, s.heap.get? b = some o → h'.get? b = some o) → (∃ o, h'.get? e = some o ∧ o.cls = .type "StopIteration") → E (.ref e) { s with heap := h' }) :
    wpAny (model prog w) A (Builtin.SmallTypes.stopIteration : Sem α) Q E s := by
  unfold Builtin.SmallTypes.stopIteration
  refine wpAny_bind ?_
  simp only [newExc, newTuple]
  refine wpAny_bind (wpAny_newObj_type ?_ (by size_fits))
  refine wpAny_bind (m := firstArgMember _ _) (wpAny_of_eq (a := Value.none) (by first | rfl | (simp only [firstArgMember]; rfl)) ?_)
  refine wpAny_newObj_type ?_ (by size_fits)
  simp only [raiseNew]
  refine wpAny_bind (wpAny_handled ?_)
  rw [hh]
  exact wpAny_bind (wpAny_pure (wpAny_throw (h _ _ (fun b o e => Heap.get?_push_of_some _ (Heap.get?_push_of_some _ e)) ⟨_, Heap.get?_push_size _ rfl, rfl⟩)))
theorem iterObj_step (li : Addr) (i : Nat) : Obj.mapFields (·.setIfInBounds 1 (rawInt ((i : Int) + 1))) (iterObj li i) = iterObj li (i + 1) := by
  simp [Obj.mapFields, rawInt]
theorem iterObj_end (li : Addr) (i : Nat) : Obj.mapFields (·.setIfInBounds 0 .none) (iterObj li i) = iterEnd i := by
  simp [Obj.mapFields]
theorem lit_special {items : Array Value} {x : Value} {n : Nat} {Q : Option Value → Shared → Prop} (hit : s.heap.get? it = some (iterObj li i)) (hl : s.heap.get? li = some { cls := .type "list", data := .seq items n }) (hx : items[i]? = some x)
    (hQ : ∀ h', h'.get? it = some (iterObj li (i + 1)) → Heap.SameBut it s.heap h' → Q (some x) { s with heap := h' }) : wpAny (model prog w) A (callSpecial? (.ref it) (Str.ofString "__next__")) Q E s := by
  have hT : s.TypeIs (.ref it) "list_iterator" := ⟨_, hit, rfl⟩
  refine wpAny_callSpecial?_slot (name := Str.ofString "__next__") hT PySem.slot_listiter_next
    (wpAny_call_entry PySem.slot_listiter_next hT PySem.entry_listiter_next ?_ (PySem.args_listiter_next _))
  show wpAny _ _ (field (.ref it) 0 >>= _) _ _ s
  refine wpAny_bind (wpAny_field hit rfl (x := .ref li) rfl ?_)
  show wpAny _ _ (if (Value.ref li == Value.none) = true then _ else _) _ _ s
  rw [if_neg (show ¬ ((Value.ref li == Value.none) = true) from Bool.false_ne_true)]
  show wpAny _ _ (field (.ref it) 1 >>= _) _ _ s
  refine wpAny_bind (wpAny_field hit rfl (x := .int i 0) rfl ?_)
  show wpAny _ _ (seqItems? (.ref li) >>= _) _ _ s
  refine wpAny_bind (wpAny_seqItems hl rfl ?_)
  simp only [Int.toNat_natCast, hx]
  refine wpAny_bind (wpAny_setField hit rfl (by simp) (wpAny_pure ⟨x, rfl, hQ _ ?_ (Heap.SameBut.update ..)⟩))
  rw [Heap.get?_update_self _ hit (by rw [iterObj_step]; rfl), iterObj_step]
theorem lit_end {items : Array Value} {n : Nat} {Q : Option Value → Shared → Prop} (hh : A.handled = none) (hit : s.heap.get? it = some (iterObj li i)) (hl : s.heap.get? li = some { cls := .type "list", data := .seq items n }) (hx : items[i]? = none)
    (hQ : ∀ h', h'.get? it = some (iterEnd i) → (∀ b o, b ≠ it → s.heap.get? b = some o → h'.get? b = some o) → Q none { s with heap := h' }) : wpAny (model prog w) A (pyNext (.ref it)) Q E s := by
  have hT : s.TypeIs (.ref it) "list_iterator" := ⟨_, hit, rfl⟩
  unfold pyNext
  refine wpAny_bind (wpAny_attempt (wpAny_callSpecial?_slot (name := Str.ofString "__next__") hT PySem.slot_listiter_next
    (wpAny_call_entry PySem.slot_listiter_next hT PySem.entry_listiter_next ?_ (PySem.args_listiter_next _))))
  show wpAny _ _ (field (.ref it) 0 >>= _) _ _ s
  refine wpAny_bind (wpAny_field hit rfl (x := .ref li) rfl ?_)
  show wpAny _ _ (if (Value.ref li == Value.none) = true then _ else _) _ _ s
  rw [if_neg (show ¬ ((Value.ref li == Value.none) = true) from Bool.false_ne_true)]
  show wpAny _ _ (field (.ref it) 1 >>= _) _ _ s
  refine wpAny_bind (wpAny_field hit rfl (x := .int i 0) rfl ?_)
  show wpAny _ _ (seqItems? (.ref li) >>= _) _ _ s
  refine wpAny_bind (wpAny_seqItems hl rfl ?_)
  simp only [Int.toNat_natCast, hx]
  refine wpAny_bind (wpAny_rule (wpAny_bind (wpAny_setField hit rfl (by simp) (wp_stop hh fun h' e hk hx => ?_))))
  obtain ⟨oe, hoe, hce⟩ := hx
  refine wpAny_bind (wpAny_isInstance (T := "StopIteration") (b := true) ⟨oe, hoe, hce⟩ isSubtype_stop (wpAny_pure (hQ _ (hk _ _ ?_) fun b o hb e => hk _ _ ((Heap.get?_update_other _ _ (Ne.symm hb)).trans e))))
  rw [Heap.get?_update_self _ hit (by rw [iterObj_end]; rfl), iterObj_end]
theorem lit_ended {Q : Option Value → Shared → Prop} (hh : A.handled = none) (hit : s.heap.get? it = some (iterEnd i))
    (hQ : ∀ h', (∀ b o, s.heap.get? b = some o → h'.get? b = some o) → Q none { s with heap := h' }) : wpAny (model prog w) A (pyNext (.ref it)) Q E s := by
  have hT : s.TypeIs (.ref it) "list_iterator" := ⟨_, hit, rfl⟩
  unfold pyNext
  refine wpAny_bind (wpAny_attempt (wpAny_callSpecial?_slot (name := Str.ofString "__next__") hT PySem.slot_listiter_next
    (wpAny_call_entry PySem.slot_listiter_next hT PySem.entry_listiter_next ?_ (PySem.args_listiter_next _))))
  show wpAny _ _ (field (.ref it) 0 >>= _) _ _ s
  refine wpAny_bind (wpAny_field hit rfl (x := .none) rfl ?_)
  show wpAny _ _ (if (Value.none == Value.none) = true then _ else _) _ _ s
  rw [if_pos (by decide)]
  refine wpAny_bind (wpAny_rule (wpAny_bind (wp_stop hh fun h' e hk hx => ?_)))
  obtain ⟨oe, hoe, hce⟩ := hx
  exact wpAny_bind (wpAny_isInstance (T := "StopIteration") (b := true) ⟨oe, hoe, hce⟩ isSubtype_stop (wpAny_pure (hQ _ hk)))
end
section
variable {C : Cx} {A : Around} {w w' : W} {σ σ' : St} {a d e : D} {l : List D} {v u : Value} {vs : List Value} {E : Value → Shared → Prop} {n : Nat}
theorem it_item (I : Inv C σ w) (hn : σ[n]? = some (.it (d :: l))) (r : Rep C w (.loc n) v) : ∃ a li vs k i x, v = .ref a ∧ w.s.heap.get? a = some (iterObj li i) ∧ w.s.heap.get? li = some (seqObj "list" vs k) ∧ vs.toArray[i]? = some x ∧
    ∀ h', h'.get? a = some (iterObj li (i + 1)) → Heap.SameBut a w.s.heap h' → Out C w (σ.set n (.it l)) d x { w.s with heap := h' } := by
  obtain ⟨a, em, q⟩ := ob_at I hn r
  cases q with
  | off _ _ q => cases q
  | on li vs k i z zl q =>
    have hq := q
    obtain ⟨x, rest, e2, rx, rr⟩ : ∃ x rest, vs.drop i = x :: rest ∧ Rep C w d x ∧ RepL C w l rest := by
      revert hq; generalize vs.drop i = vs'; rintro ⟨x, rest, a, b⟩; exact ⟨x, rest, rfl, a, b⟩
    refine ⟨a, li, vs, k, i, x, rfl, z.is, zl.is, by rw [List.getElem?_toArray, ← List.head?_drop, e2]; rfl, fun h' hg hs => ?_⟩
    have ne : li ≠ a := fun q => by have := zl.tag; rw [q, z.tag] at this; cases this
    exact (ob_upd (t := w.s.toks) (co := .it l) I z hg (fun b o hb e => (hs.2 b hb).trans e) fun M a' q => by
      cases em.symm.trans q
      exact .on li vs k (i + 1) ⟨z.tag, hg⟩ (M.keep _ _ zl) (by rw [List.drop_add_one_eq_tail_drop, e2]; exact RepL.mono M _ _ rr)).out rx
theorem bi_next1 (hn : σ[n]? = some (.it (d :: l))) (I : Inv C σ w) : RepL C w [.loc n] vs → wpAny C.M A (call (.builtin "next") vs) (Out C w (σ.set n (.it l)) d) E w.s := fun ⟨v, _, r, e'⟩ => by
  subst e'
  obtain ⟨a, li, vs, k, i, x, rfl, q1, q3, hx, fin⟩ := it_item I hn r
  refine Calls.call_function_entry (by decide +kernel) (by decide +kernel) kdk_entry_next (kdk_args_next _) ?_
  unfold Builtin.«next»
  refine wpAny_bind (m := someArgs "next" 1 2 _) (wpAny_of_eq (a := [Value.ref a]) (by first | rfl | kernel_rfl!) ?_)
  dsimp only
  refine wpAny_bind (wpAny_specialOf (name := Str.ofString "__next__") ⟨_, q1, rfl⟩ PySem.slot_listiter_next.lookup ?_)
  refine wpAny_ite_split (fun hab => absurd hab (by decide)) (fun u0 => ?_)
  exact wpAny_bind (lit_special q1 q3 hx fun h' a b => wpAny_pure ⟨_, rfl, fin h' a b⟩)
theorem bi_next2 (hn : σ[n]? = some (.it (d :: l))) (I : Inv C σ w) : RepL C w [.loc n, e] vs → wpAny C.M A (call (.builtin "next") vs) (Out C w (σ.set n (.it l)) d) E w.s := fun ⟨v, _, r, u, _, ru, e'⟩ => by
  subst e'
  obtain ⟨a, li, vs, k, i, x, rfl, q1, q3, hx, fin⟩ := it_item I hn r
  refine Calls.call_function_entry (by decide +kernel) (by decide +kernel) kdk_entry_next (kdk_args_next2 _ _) ?_
  unfold Builtin.«next»
  refine wpAny_bind (m := someArgs "next" 1 2 _) (wpAny_of_eq (a := [Value.ref a, u]) (by first | rfl | kernel_rfl!) ?_)
  dsimp only
  refine wpAny_bind (wpAny_specialOf (name := Str.ofString "__next__") ⟨_, q1, rfl⟩ PySem.slot_listiter_next.lookup ?_)
  refine wpAny_ite_split (fun hab => absurd hab (by decide)) (fun u0 => ?_)
  unfold pyNext
  exact wpAny_bind (wpAny_bind (wpAny_attempt (lit_special q1 q3 hx fun h' a b => wpAny_pure (wpAny_pure ⟨_, rfl, fin h' a b⟩))))
theorem it_done (hA : A.handled = none) (I : Inv C σ w) (hn : σ[n]? = some (.it [])) (r : Rep C w (.loc n) v) {Q : Option Value → Shared → Prop} (hq : ∀ w', Step NoF w w' → Inv C σ w' → Q none w'.s) : wpAny C.M A (pyNext v) Q E w.s := by
  obtain ⟨a, em, q⟩ := ob_at I hn r
  have hset : σ.set n (.it []) = σ := by
    obtain ⟨h1, h2⟩ := List.getElem?_eq_some_iff.mp hn
    rw [← h2]; exact List.set_getElem_self h1
  cases q with
  | on li vs k i z zl q =>
    have hx : vs.toArray[i]? = none := by
      rw [List.getElem?_toArray]; exact List.getElem?_eq_none_iff.mpr (List.drop_eq_nil_iff.mp q)
    refine lit_end hA z.is zl.is hx fun h' hg hk => ?_
    have u := ob_upd (t := w.s.toks) (co := .it []) I z hg hk fun M a' q => by cases em.symm.trans q; exact .off i ⟨z.tag, hg⟩ rfl
    revert u
    generalize ({ w.s with heap := h', toks := w.s.toks } : Shared) = s2
    rintro ⟨w2, x2, I2⟩
    exact hq w2 x2 (hset ▸ I2)
  | off i z _ => exact lit_ended hA z.is fun h' hk => hq (w.put [] .fz h' w.s.toks []) (.grow hk) (I.grow hk)
theorem it_type (I : Inv C σ w) (hn : σ[n]? = some (.it l)) (r : Rep C w (.loc n) v) : ∃ a, v = .ref a ∧ (∃ t o, At w t a o ∧ t ≠ .fz) ∧ w.s.TypeIs (.ref a) "list_iterator" := by
  obtain ⟨a, em, q⟩ := ob_at I hn r
  cases q with
  | on li vs k i z zl q => exact ⟨a, rfl, ⟨_, _, z, fun q => nomatch q⟩, ⟨_, z.is, rfl⟩⟩
  | off i z _ => exact ⟨a, rfl, ⟨_, _, z, fun q => nomatch q⟩, ⟨_, z.is, rfl⟩⟩
theorem bi_next0 (hn : σ[n]? = some (.it [])) (hA : A.handled = none) (I : Inv C σ w) : RepL C w [.loc n, e] vs → wpAny C.M A (call (.builtin "next") vs) (Out C w σ e) E w.s := fun ⟨v, _, r, u, _, ru, e'⟩ => by
  subst e'
  obtain ⟨a, rfl, u1, hT⟩ := it_type I hn r
  refine Calls.call_function_entry (by decide +kernel) (by decide +kernel) kdk_entry_next (kdk_args_next2 _ _) ?_
  unfold Builtin.«next»
  refine wpAny_bind (m := someArgs "next" 1 2 _) (wpAny_of_eq (a := [Value.ref a, u]) (by first | rfl | kernel_rfl!) ?_)
  dsimp only
  refine wpAny_bind (wpAny_specialOf (name := Str.ofString "__next__") hT PySem.slot_listiter_next.lookup ?_)
  refine wpAny_ite_split (fun hab => absurd hab (by decide)) (fun u0 => ?_)
  exact wpAny_bind (it_done (A := A.in1) hA I hn r fun w' x I' => wpAny_pure ⟨_, rfl, w', x, I', x.rep ru⟩)
theorem bi_listIt (hn : σ[n]? = some (.it [])) (hA : A.handled = none) (I : Inv C σ w) : RepL C w [.loc n] vs → wpAny C.M A (call (.type "list") vs) (Out C w σ (.lst [])) E w.s := fun ⟨v, _, r, e'⟩ => by
  subst e'
  obtain ⟨it, rfl, ⟨t, oi, zi, nt⟩, hT0⟩ := it_type I hn r
  refine callType_codes (Q₁ := fun obj s₁ => obj = .ref w.s.heap.objs.size ∧ s₁ = { w.s with heap := w.s.heap.push { cls := .type "list", data := .seq #[] } }) PySem.F.called_list (PySem.F.typeCall_list_1 _) PySem.F.entry_list_init
    (code_list_new _ ⟨rfl, rfl⟩) fun obj s₁ h₁ => ?_
  obtain ⟨rfl, rfl⟩ := h₁
  have hS : (w.s.heap.push { cls := .type "list", data := .seq #[] }).get? w.s.heap.objs.size = some { cls := .type "list", data := .seq #[] } := Heap.get?_push_size _ rfl
  have f0 := Heap.fresh0 w.s.heap
  refine ⟨⟨_, hS, rfl⟩, PySem.F.args_list_init_2 _ _, ?_⟩
  show wpAny _ A.in1.in1 (do let old ← Builtin.List.listItems (.ref w.s.heap.objs.size); Builtin.List.listUpdate (.ref w.s.heap.objs.size) (fun u0 => #[]); letGo old.toList.reverse; Builtin.List.listExtendWith (.ref w.s.heap.objs.size) (.ref it) .none) _ _ _
  refine wpAny_bind ?_
  unfold Builtin.List.listItems
  refine wpAny_bind (wpAny_seqItems hS rfl (wpAny_pure ?_))
  show wpAny _ _ (updateSeq w.s.heap.objs.size (fun u0 => #[]) >>= fun u0 => letGo (#[] : Array Value).toList.reverse >>= fun u0 => Builtin.List.listExtendWith (.ref w.s.heap.objs.size) (.ref it) .none) _ _ _
  refine wpAny_bind (wpAny_updateSeq hS rfl ?_)
  have hS₂ := Heap.get?_update_self (Obj.mapSeq (fun u0 => (#[] : Array Value))) hS rfl
  have hk : ∀ b o, w.s.heap.get? b = some o → ((w.s.heap.push { cls := .type "list", data := .seq #[] }).update w.s.heap.objs.size (Obj.mapSeq (fun u0 => (#[] : Array Value)))).get? b = some o :=
    fun b o e => (Heap.get?_update_other _ _ fun q => by rw [← q, f0] at e; cases e).trans (Heap.get?_push_of_some _ e)
  refine wpAny_bind (wpAny_letGo ?_)
  have g := grown I w.s.toks hk
  have df := I.dead _ f0
  have hne : w.s.heap.objs.size ≠ it := fun q => zi.alive.no (q ▸ f0)
  revert g hS₂
  show _ → _ → wpAny _ _ _ _ _ { w.s with heap := (w.s.heap.push { cls := .type "list", data := .seq #[] }).update w.s.heap.objs.size (Obj.mapSeq (fun u0 => (#[] : Array Value))), toks := w.s.toks }
  generalize (w.s.heap.push { cls := .type "list", data := .seq #[] }).update w.s.heap.objs.size (Obj.mapSeq (fun u0 => (#[] : Array Value))) = h1
  generalize w.s.heap.objs.size = S at df hne
  generalize ({ w.s with heap := h1, toks := w.s.toks } : Shared) = s1
  intro hS₂ g
  obtain ⟨w1, x1, I1, e1, tg⟩ := g
  subst e1
  have r1 := x1.rep r
  obtain ⟨it', e, u1, hT⟩ := it_type I1 hn r1
  cases e
  unfold Builtin.List.listExtendWith
  refine wpAny_bind (wpAny_typeOf hT ?_)
  have h1 : Builtin.List.listSameRef (.ref S) (.ref it) = false := beq_false_of_ne hne
  rw [if_neg (by rw [h1]; decide)]
  refine wpAny_bind (wpAny_pyIter_slot hT slot_listiter_iter (wpAny_call_entry slot_listiter_iter hT entry_listiter_iter (wpAny_pure ⟨_, rfl, "list_iterator", _, hT, slot_listiter_next.lookup, ?_⟩) (args_listiter_iter _)))
  refine wpAny_bind (wpAny_holding ?_)
  unfold Builtin.List.listLengthHint
  refine wpAny_bind (wpAny_specialOf hT F.nolen_li ?_)
  show wpAny _ _ (specialOf (Value.ref it) (Str.ofString "__length_hint__") >>= _) _ _ _
  refine wpAny_bind (wpAny_specialOf hT F.hint_li ?_)
  generalize hid : ("list_iterator.__length_hint__" : String) = id0
  wp_delta
  rw [show splitId id0 = some ("list_iterator", "__length_hint__") from by subst hid; decide +kernel]
  subst hid
  refine wpAny_bind (wpAny_isInstance (b := true) hT (by rw [isSubtype_type]; kernel_rfl) ?_)
  refine wpAny_pure ?_
  rw [if_neg (by decide)]
  refine wpAny_pure ⟨plainId_quiet F.plain_extend_loop _, codeAny_builtin PySem.F.entry_extend_loop ?_⟩
  rw [Around.under_plainId PySem.F.plain_extend_loop _]
  show wpAny _ _ (pyNext (.ref it) >>= _) _ _ _
  exact wpAny_bind (it_done (A := A.in1.in1) hA I1 hn r1 fun w' x I' => wpAny_pure ⟨rfl, w', x1.trans x, I', S, [], _, x.keep _ _ ⟨(tg S).trans df, hS₂⟩, rfl⟩)
end
end Mine
end
section
open PySem PySem.W PyProof.Rows
namespace Mine
theorem mf_join : MeFacts "str" "join" "str.join" := ⟨PySem.F.plainAttrs_str, PySem.F.slot_str_join, PySem.F.type_str_join⟩
theorem mf_split : MeFacts "str" "split" "str.split" := ⟨PySem.F.plainAttrs_str, PySem.F.slot_str_split, PySem.F.type_str_split⟩
theorem mf_count : MeFacts "str" "count" "str.count" := ⟨PySem.F.plainAttrs_str, PySem.F.slot_str_count, PySem.F.type_str_count⟩
theorem mf_append : MeFacts "list" "append" "list.append" := ⟨PySem.F.plainAttrs_list, PySem.F.slot_list_append, PySem.F.type_list_append⟩
theorem mf_pop : MeFacts "list" "pop" "list.pop" := ⟨PySem.F.plainAttrs_list, PySem.F.slot_list_pop, PySem.F.type_list_pop⟩
theorem mf_get : MeFacts "dict" "get" "dict.get" := ⟨PySem.F.plainAttrs_dict, PySem.F.slot_dict_get, PySem.F.type_dict_get⟩
section
variable {prog : Program} {w : World} {A : Around} {E : Value → Shared → Prop} {s : Shared}
theorem hint_str {x : Str} {t : Tok} {Q : Bool → Shared → Prop} (h : Q false s) : wpAny (model prog w) A (Builtin.List.listLengthHint (.str x t)) Q E s := by
  have hT : s.TypeIs (.str x t) "str" := rfl
  unfold Builtin.List.listLengthHint
  refine wpAny_bind (wpAny_specialOf hT PySem.F.slot_str_len.lookup ?_)
  generalize hid : ("str.__len__" : String) = id0
  wp_delta
  rw [show splitId id0 = some ("str", "__len__") from by subst hid; decide +kernel]
  subst hid
  refine wpAny_bind (wpAny_isInstance (T := "str") (b := true) hT (by rw [isSubtype_type]; kernel_rfl) ?_)
  refine wpAny_ite_split (fun hab => absurd hab (by decide)) (fun u0 => ?_)
  refine wpAny_ite_split (fun u0 => ?_) (fun hab => absurd (by decide +kernel) hab)
  refine wpAny_bind (wpAny_typeOf hT ?_)
  exact wpAny_pure h
theorem str_extend {R : Result → Shared → Prop} {x : Str} {t : Tok} {oI : Obj} {n : Nat} {P : Nat → Value → Prop} {St : Nat → Heap → Prop}
    (hit : ∀ (E : Value → Shared → Prop) (Q : Value → Shared → Prop), Q (.ref s.heap.objs.size) { s with heap := s.heap.push oI } → wpAny (model prog w) A.in1 (pyIter (.str x t)) Q E s)
    (W : Walks prog w A.in1 s.heap.objs.size [s.heap.objs.size] [s.heap.objs.size] n P St) (st : St 0 (s.heap.push oI)) (S : Addr) (c₀ : Nat) (hS : s.heap.get? S = some { cls := .type "list", data := .seq #[] c₀ })
    (hR : ∀ h' tk acc' c', (∀ b o, b ≠ S → s.heap.get? b = some o → h'.get? b = some o) → h'.get? S = some { cls := .type "list", dict := none, data := .seq acc' c', slots := #[] } → ItemsOf P acc' n → R (.ok (.ret .none)) { s with heap := h', toks := tk }) (hn : n ≤ sizeLine) :
    wpAny (model prog w) A.in1 (Builtin.List.listExtendWith (.ref S) (.str x t) .none)
      (fun fin s' => match fin with | .done f => R (.ok f) s' | .again c' => c'.quiet = true ∧ codeAny (model prog w) A c' R s') (fun e s' => R (.error e) s') s := by
  have hT : s.TypeIs (.str x t) "str" := rfl
  have hSI : S ≠ s.heap.objs.size := Nat.ne_of_lt (Heap.lt_size hS)
  have hSf : S ∉ [s.heap.objs.size] := by simp only [List.mem_singleton]; exact hSI
  unfold Builtin.List.listExtendWith
  refine wpAny_bind (wpAny_typeOf hT ?_)
  rw [if_neg (by simp [Builtin.List.listSameRef])]
  refine wpAny_bind (hit _ _ ?_)
  have hS₁ := Heap.get?_push_of_some oI hS
  refine wpAny_bind (wpAny_holding (hint_str ?_))
  rw [if_neg (by decide +kernel)]
  refine wpAny_pure ⟨plainId_quiet PySem.F.plain_extend_loop _, ?_⟩
  show codeAny (model prog w) A (.builtin "list.extend.loop" ⟨[.ref S, .ref s.heap.objs.size, .none], []⟩) R { s with heap := s.heap.push oI, toks := s.toks }
  refine codeAny_extend_loopS W.toS hn S hSf .none n 0 _ #[] c₀ rfl (Nat.zero_le _) st hS₁ (ItemsOf.nil _) fun s' acc' c' hm hS' hacc => ?_
  rw [Moved.eq_with hm]
  refine hR s'.heap s'.toks acc' c' (fun b o hb e => hm.heap b o (fun hmem => ?_) (Heap.get?_push_of_some _ e)) hS' hacc
  rcases List.mem_cons.mp hmem with e' | hmem
  · exact hb e'
  · exact absurd (Heap.lt_size e) (by rw [List.mem_singleton.mp hmem]; exact Nat.lt_irrefl _)
end
section
variable {C : Cx} {A : Around} {w w' : W} {σ σ' : St} {a d e : D} {l : List D} {v u : Value} {vs : List Value} {E : Value → Shared → Prop} {n : Nat} {x y : Str}
theorem out_strs {ts : List (Str × Tok)} {ss : List Str} (I : Inv C σ w) (t : Tok) (h : ts.map (·.1) = ss) : Out C w σ (.lst (ss.map .str)) (.ref w.s.heap.objs.size) { w.s with heap := w.s.heap.push (seqObj "list" (strValues ts) 0), toks := t } :=
  out_list I t (strsAre_rep (h ▸ strsAre_of))
theorem split0_ok {t : Tok} (I : Inv C σ w) (hsz : x.length ≤ 16777216) (hsz2 : (Builtin.Str.spaceWords x (x.length + 1)).length ≤ 16777216) : wpAny C.M A (call (.builtin "str.split") [.str x t]) (Out C w σ (.lst ((Txt.words x).map .str))) E w.s := by
  refine call_meets PySem.F.slot_str_split (typeIs_str _ _ _) PySem.F.entry_str_split (PySem.F.args_str_split_1 _) (meets_str_split_space x t (by rw [sizeLine_is]; exact hsz) (by rw [sizeLine_is]; exact hsz2)) ?_
  cases hw : Builtin.Str.spaceWords x (x.length + 1) == [(0, x.length)]
  · rw [if_neg Bool.false_ne_true, strsFrom_eq]
    exact out_strs I _ ((numbered_texts _ _).trans (if_neg (ne_true_of_eq_false hw)).symm)
  · exact out_strs (ts := [(x, t)]) I w.s.toks (if_pos hw).symm
theorem split1_ok {t u : Tok} (I : Inv C σ w) (hy : (y.length == 0) = false) (hsz : x.length ≤ 16777216) (hsz2 : (Builtin.Str.partsBetween x (Builtin.Str.occurrences x y 0 x.length (x.length + 1)) y.length).length ≤ 16777216) :
    wpAny C.M A (call (.builtin "str.split") [.str x t, .str y u]) (Out C w σ (.lst ((Txt.split x y).map .str))) E w.s := by
  cases h1 : (decide (x.length < y.length) || decide (PySem.Builtin.Str.strKind x < PySem.Builtin.Str.strKind y))
  · cases hf : (Builtin.Str.occurrences x y 0 x.length (x.length + 1)).isEmpty
    · refine call_meets PySem.F.slot_str_split (typeIs_str _ _ _) PySem.F.entry_str_split (PySem.F.args_str_split_2 _ _) (meets_str_split_sep x y t u h1 hy hf (by rw [sizeLine_is]; exact hsz) (by rw [sizeLine_is]; exact hsz2)) ?_
      show wants _ E _ { w.s with toks := _, heap := w.s.heap.push { cls := .type "list", data := .seq (strsFrom w.s.toks (Builtin.Str.partsBetween x (Builtin.Str.occurrences x y 0 x.length (x.length + 1)) y.length)).toArray } }
      rw [strsFrom_eq]
      exact out_strs I _ ((numbered_texts _ _).trans ((if_neg (ne_true_of_eq_false h1)).trans (if_neg (ne_true_of_eq_false hf))).symm)
    · exact call_meets PySem.F.slot_str_split (typeIs_str _ _ _) PySem.F.entry_str_split (PySem.F.args_str_split_2 _ _) (meets_str_split_not_found x y t u h1 hy hf)
        (out_strs (ts := [(x, t)]) I w.s.toks ((if_neg (ne_true_of_eq_false h1)).trans (if_pos hf)).symm)
  · exact call_meets PySem.F.slot_str_split (typeIs_str _ _ _) PySem.F.entry_str_split (PySem.F.args_str_split_2 _ _) (meets_str_split_cannot_occur x y t u h1)
      (out_strs (ts := [(x, t)]) I w.s.toks (if_pos h1).symm)
theorem strs_find {ts : List (Str × Tok)} {j : Nat} {u : Tok} (hj : (ts.map (·.1))[j]? = some y) (hno : ∀ m, m < j → (ts.map (·.1))[m]? ≠ some y) : (∀ z, z ∈ (strValues ts).toArray → MeetsSeq.EqGives z (.str y u) (isStr y z)) ∧ ∃ hj : j < (strValues ts).toArray.size, isStr y (strValues ts).toArray[j] = true ∧ ∀ m (hm : m < (strValues ts).toArray.size), m < j → isStr y (strValues ts).toArray[m] = false := by
  have at' : ∀ m (hm : m < (strValues ts).toArray.size), ∃ x t, (strValues ts).toArray[m] = .str x t ∧ (ts.map (·.1))[m]? = some x := fun m hm => by
    have h1 : (strValues ts)[m]? = some (strValues ts).toArray[m] := by rw [← List.getElem?_toArray]; exact Array.getElem?_eq_getElem hm
    unfold strValues at h1
    rw [List.getElem?_map] at h1
    obtain ⟨p, e1, e2⟩ := Option.map_eq_some_iff.mp h1
    exact ⟨p.1, p.2, e2.symm, by rw [List.getElem?_map, e1]; rfl⟩
  refine ⟨strs_eqg ts, ?_⟩
  have hlt : j < (strValues ts).toArray.size := by rw [List.size_toArray]; have := get_lt hj; unfold strValues; rwa [List.length_map] at this ⊢
  refine ⟨hlt, ?_, fun m hm hmj => ?_⟩
  · obtain ⟨x, t, e1, e2⟩ := at' j hlt
    cases e2.symm.trans hj
    rw [e1]; exact beq_iff_eq.mpr rfl
  · obtain ⟨x, t, e1, e2⟩ := at' m hm
    rw [e1]
    refine beq_false_of_ne fun q => hno m hmj (e2.trans ?_)
    cases x; cases y
    exact congrArg (fun a => some (Str.mk a)) (Array.toList_inj.mp q)
theorem list_str (hA : A.handled = none) (I : Inv C σ w) (r : Rep C w (.str x) v) (hz : x.cps.size ≤ 16777216) : wpAny C.M A (call (.type "list") [v]) (Out C w σ (.lst (signs x))) E w.s := by
  obtain ⟨t, rfl⟩ := r
  have hn : x.cps.size ≤ sizeLine := by rw [sizeLine_is]; exact hz
  refine callType_codes (Q₁ := fun obj s₁ => obj = .ref w.s.heap.objs.size ∧ s₁ = { w.s with heap := w.s.heap.push { cls := .type "list", data := .seq #[] } }) PySem.F.called_list (PySem.F.typeCall_list_1 _) PySem.F.entry_list_init
    (code_list_new _ ⟨rfl, rfl⟩) fun obj s₁ h₁ => ?_
  obtain ⟨rfl, rfl⟩ := h₁
  have hS : (w.s.heap.push { cls := .type "list", data := .seq #[] }).get? w.s.heap.objs.size = some { cls := .type "list", data := .seq #[] } := Heap.get?_push_size _ rfl
  have hfr := Heap.fresh0 w.s.heap
  refine ⟨⟨_, hS, rfl⟩, PySem.F.args_list_init_2 _ _, ?_⟩
  show wpAny _ A.in1.in1 (do let old ← Builtin.List.listItems (.ref w.s.heap.objs.size); Builtin.List.listUpdate (.ref w.s.heap.objs.size) (fun u0 => #[]); letGo old.toList.reverse; Builtin.List.listExtendWith (.ref w.s.heap.objs.size) (.str x t) .none) _ _ _
  refine wpAny_bind ?_
  unfold Builtin.List.listItems
  refine wpAny_bind (wpAny_seqItems hS rfl (wpAny_pure ?_))
  show wpAny _ _ (updateSeq w.s.heap.objs.size (fun u0 => #[]) >>= fun u0 => letGo (#[] : Array Value).toList.reverse >>= fun u0 => Builtin.List.listExtendWith (.ref w.s.heap.objs.size) (.str x t) .none) _ _ _
  refine wpAny_bind (wpAny_updateSeq hS rfl ?_)
  have hS₂ := Heap.get?_update_self (Obj.mapSeq (fun u0 => (#[] : Array Value))) hS rfl
  have hk : ∀ b o, w.s.heap.get? b = some o → ((w.s.heap.push { cls := .type "list", data := .seq #[] }).update w.s.heap.objs.size (Obj.mapSeq (fun u0 => (#[] : Array Value)))).get? b = some o :=
    fun b o e => (Heap.get?_update_other _ _ fun q => by rw [← q, hfr] at e; cases e).trans (Heap.get?_push_of_some _ e)
  refine wpAny_bind (wpAny_letGo ?_)
  have fin : ∀ (h' : Heap) tk (acc' : Array Value) c', (∀ b o, b ≠ w.s.heap.objs.size → ((w.s.heap.push { cls := .type "list", data := .seq #[] }).update w.s.heap.objs.size (Obj.mapSeq (fun u0 => (#[] : Array Value)))).get? b = some o → h'.get? b = some o) →
      h'.get? w.s.heap.objs.size = some { cls := .type "list", dict := none, data := .seq acc' c', slots := #[] } → ItemsOf (SignAt x) acc' x.cps.size → Out C w σ (.lst (signs x)) (.ref w.s.heap.objs.size) { w.s with heap := h', toks := tk } := by
    intro h' tk acc' c' hk' hS' hacc
    refine out_grown I (fun b o e => hk' b o (fun q => by rw [q, hfr] at e; cases e) (hk b o e)) ⟨_, acc'.toList, c', ⟨I.dead _ hfr, ?_⟩, ?_⟩
    · show _ = some ({ cls := .type "list", data := .seq acc'.toList.toArray c' } : Obj)
      rw [Array.toArray_toList]; exact hS'
    · refine repL_of (by rw [Array.length_toList, hacc.1]; unfold signs; rw [List.length_map, Array.length_toList]) fun i d e => ?_
      unfold signs at e
      rw [List.getElem?_map] at e
      obtain ⟨c, e1, rfl⟩ := Option.map_eq_some_iff.mp e
      have hi : i < acc'.size := by rw [hacc.1, ← Array.length_toList]; exact get_lt e1
      obtain ⟨c', u, e', q⟩ := hacc.2 i acc'[i] (Array.getElem?_eq_getElem hi)
      cases (Array.getElem?_toList.symm.trans e1).symm.trans e'
      exact ⟨acc'[i], Array.getElem?_toList.trans (Array.getElem?_eq_getElem hi), u, q⟩
  cases ha : x.cps.all (· < 128)
  · refine str_extend (A := A.in1) (fun E Q q => wpAny_pyIter_wide ha q) (Walks.strWide (A := A.in1.in1) (show A.in1.in1.handled = none from hA) _ x t) ⟨_, Heap.get?_push_size _ rfl, rfl, rfl⟩ _ _ hS₂ (fun h' tk acc' c' hk' hS' hacc => ⟨rfl, fin h' tk acc' c' hk' hS' hacc⟩) hn
  · refine str_extend (A := A.in1) (fun E Q q => wpAny_pyIter_ascii ha q) (Walks.strAscii (A := A.in1.in1) (show A.in1.in1.handled = none from hA) _ x t) ⟨_, Heap.get?_push_size _ rfl, rfl, rfl⟩ _ _ hS₂ (fun h' tk acc' c' hk' hS' hacc => ⟨rfl, fin h' tk acc' c' hk' hS' hacc⟩) hn
end
section
variable {K : Ctx} {ρ : Rho} {σ σ' σ₁ σ₂ : St} {a b d : D} {l : List D} {n : Nat} {o e : Expr} {p q apos pos : Pos} {x y : Str} {args : List Expr}
theorem TE_isTuple {i : Int} {z : Str} (hb : Bi K.C x (.builtin "isinstance")) (hk : K.fd.glob x = true) (hb' : Bi K.C z (.type "tuple")) (hk' : K.fd.glob z = true) (he : TE K ρ (eval e K.env) σ (.int i) σ₁) (hu : unstarred [e] = true := by rfl) : TE K ρ (eval (.Call (.Name x p) [e, .Name z q] [] pos) K.env) σ (.bool false) σ₁ := fun u0 u0 r => by
  have hu2 : unstarred [e, .Name z q] = true := by cases e <;> first | rfl | cases hu
  refine wpAny_Call_Name_kw (builtin_ok r hk hb (Calls.callWith_builtin (noStar hu2) (evalArgs_spliced (noStar hu2) ?_)))
  refine wpAny_items_cons (e := e) (rest := [.Name z q]) (pos := pos) (he.go r fun v w1 n1 => ?_) (starEach_cons hu)
  refine wpAny_items_cons (e := .Name z q) (rest := []) (pos := pos) (builtin_ok n1.p hk' hb' (wpAny_items_nil ?_)) rfl
  obtain ⟨t, e'⟩ := n1.r
  subst e'
  exact IsiPair.int_tuple ((out_bool n1.p.I false _).after n1.x)
theorem TE_listStr (hb : Bi K.C x (.type "list")) (hk : K.fd.glob x = true) (he : TE K ρ (eval e K.env) σ (.str y) σ') (hz : y.cps.size ≤ 16777216) (hu : unstarred [e] = true := by rfl) : TE K ρ (eval (.Call (.Name x p) [e] [] pos) K.env) σ (.lst (signs y)) σ' :=
  TE_bi hb hk rfl hu (TL_cons hu he TL_nil) fun p ⟨v, _, r, e'⟩ => by cases e'; exact list_str p.o.room.handled p.I r hz
end
end Mine
end
section
open PySem PySem.W PyProof.Rows
namespace Mine
section
variable {κ : Type} [DecidableEq κ] {C : Cx} {w w' : W}
theorem stored_nodup {kvl : List (κ × Value)} (hn : (kvl.map (·.1)).Nodup) (k : κ) (v : Value) : ((stored kvl k v).map (·.1)).Nodup := by
  unfold stored
  split
  · rw [keys_map_store]; exact hn
  · rename_i q
    rw [List.map_append, List.nodup_append]
    refine ⟨hn, List.nodup_cons.mpr ⟨List.not_mem_nil, .nil⟩, fun x hx y hy => ?_⟩
    cases List.mem_singleton.mp hy
    rintro rfl
    obtain ⟨⟨k', w⟩, hw, e⟩ := List.mem_map.mp hx
    exact q (List.any_eq_true.mpr ⟨_, hw, decide_eq_true e⟩)
theorem RepK.mono (M : Mono w w') : ∀ (l : List (κ × D)) (kvs : List (κ × Value)), RepK C w l kvs → RepK C w' l kvs
  | [], _ => id
  | (_, d) :: l, _ => HKV.imp (Rep.mono M d) (RepK.mono M l)
noncomputable def ksets (l m : List (κ × D)) : List (κ × D) := m.foldl (fun l p => kset l p.1 p.2) l
theorem repK_merged : ∀ {m l : List (κ × D)} {kvm kvl : List (κ × Value)}, RepK C w m kvm → RepK C w l kvl → (kvl.map (·.1)).Nodup → RepK C w (ksets l m) (merged kvl kvm)
  | [], l, kvm, kvl, rm, rl, hn => by cases rm; exact rl
  | (k, d) :: m, l, _, kvl, ⟨v, r', a, b⟩, rl, hn => show RepK C w (ksets (kset l k d) m) (merged (stored kvl k v) r') from repK_merged b (repK_stored rl hn a) (stored_nodup hn k v)
noncomputable def RepP (C : Cx) (w : W) (kd : κ → D) : List (κ × D) → List (Value × Value) → Prop
  | [] => fun vs => vs = []
  | (k, d) :: l => HCons (fun p => Rep C w (kd k) p.1 ∧ Rep C w d p.2) (RepP C w kd l)
theorem repP_carries {kd : κ → D} {knd : KeyKind C.prog C.w κ} (hk : ∀ k u, Rep C w (kd k) u → knd.is k u = true) : ∀ {l : List (κ × D)} {vs : List (Value × Value)}, RepP C w kd l vs → ∃ kvs, Carries knd vs kvs ∧ RepK C w l kvs
  | [], _, r => by cases r; exact ⟨[], trivial, rfl⟩
  | (k, d) :: l, _, ⟨p, r, a, b⟩ => let ⟨kvs, c1, c2⟩ := repP_carries hk b; ⟨(k, p.2) :: kvs, ⟨hk k _ a.1, rfl, c1⟩, p.2, kvs, a.2, c2⟩
theorem strIs {k : Str} {u : Value} : Rep C w (.str k) u → (strKind C.prog C.w).is k u = true := fun ⟨t, e⟩ => e ▸ decide_eq_true rfl
end
section
variable {κ : Type} [DecidableEq κ] {K : Ctx} {ρ : Rho} {σ σ' σ₁ σ₂ σ₃ : St} {a b d : D} {l : List D} {pos : Pos} {kx vx : Expr} {kd : κ → D} {w : W}
inductive OutKV (C : Cx) (w : W) (σ : St) (kd : κ → D) (l : List (κ × D)) (vs : List (Value × Value)) : Shared → Prop
  | mk (w' : W) (x : Step NoF w w') (I : Inv C σ w') (r : RepP C w' kd l vs) : OutKV C w σ kd l vs w'.s
noncomputable def TKV (K : Ctx) (ρ : Rho) (kd : κ → D) (t : Sem (List (Value × Value))) (σ : St) (l : List (κ × D)) (σ' : St) : Prop := ∀ ⦃w : W⦄ ⦃E : Value → Shared → Prop⦄, Ok K ρ σ w → wpAny K.C.M K.A t (OutKV K.C w σ' kd l) E w.s
theorem TKV_nil : TKV K ρ kd (evalPairs []) σ [] σ := fun w u0 p => evalPairs_nil ⟨w, .refl _ _, p.I, rfl⟩
noncomputable abbrev pairS (K : Ctx) (kx vx : Expr) (pos : Pos) : Sem Value × Sem Value := (eval kx K.env, (do let x ← eval vx K.env; standAt pos; pure x))
theorem TKV_cons {k : κ} {r : List (Sem Value × Sem Value)} {l : List (κ × D)} (hk : TE K ρ (eval kx K.env) σ (kd k) σ₁) (hv : TE K ρ (eval vx K.env) σ₁ d σ₂) (hr : TKV K ρ kd (evalPairs r) σ₂ l σ₃) : TKV K ρ kd (evalPairs (pairS K kx vx pos :: r)) σ ((k, d) :: l) σ₃ := fun u0 u0 p =>
  evalPairs_cons (hk.go p fun u w1 n1 => wpAny_bind (hv.go n1.p fun v w2 n2 => wpAny_bind (wpAny_standAt (wpAny_pure (wpAny_mono (hr n2.p) (fun vs u0 ⟨w3, x3, I3, r3⟩ => ⟨w3, (n1.x.trans n2.x).trans x3, I3, (u, v), vs, ⟨(n2.x.trans x3).rep n1.r, x3.rep n2.r⟩, r3⟩) fun u0 u0 e => e)))))
noncomputable def pairsOf (keys : List (Option Expr)) (values : List Expr) (pos : Pos) (env : Env) : List (Option (Sem Value) × Sem Value) := (evalEachOpt keys env).zip ((evalEach values env).map fun v => do let x ← v; standAt pos; pure x)
theorem dict_priv {knd : KeyKind K.C.prog K.C.w κ} {keys : List (Option Expr)} {values : List Expr} {pairs : List (Sem Value × Sem Value)} {l : List (κ × D)} {G : Addr → W → Prop} (hk : ∀ w k u, Rep K.C w (kd k) u → knd.is k u = true) (hG : ∀ {a w o kvs}, a ≠ sysModules → At w (.mu a) a o → o.IsDictOf knd kvs → RepK K.C w (ksets [] l) kvs → G a w)
    (hp : TKV K ρ kd (evalPairs pairs) σ l σ') (hshape : pairsOf keys values pos K.env = pairs.map fun p => (some p.1, p.2)) (hne : pairs ≠ []) (hlen : pairs.length ≤ 15) : TP K ρ (eval (.Dict keys values pos) K.env) σ G σ' := fun {w E} p => by
  obtain ⟨x1, I1⟩ := new_priv (o := { cls := .type "dict", data := .dict #[] }) (t := w.s.toks) p.I rfl
  have za : At (w.put [w.s.heap.objs.size] (.mu w.s.heap.objs.size) (w.s.heap.push { cls := .type "dict", data := .dict #[] }) w.s.toks []) (.mu w.s.heap.objs.size) w.s.heap.objs.size { cls := .type "dict", data := .dict #[] } := ⟨if_pos (.head _), Heap.get?_push_size _ rfl⟩
  have na := NoT.of p.I (Heap.fresh0 w.s.heap)
  have ns := sys_ne p.I
  have hd : (w.s.heap.push { cls := .type "dict", data := .dict #[] }).DictOf knd w.s.heap.objs.size [] := Heap.DictOf.new w.s.heap
  refine wpAny_Dict_pairs (knd := knd) hshape hne hlen ?_
  have p1 := p.next x1 I1
  show wpAny _ _ _ _ _ (w.put [w.s.heap.objs.size] (.mu w.s.heap.objs.size) (w.s.heap.push { cls := .type "dict", data := .dict #[] }) w.s.toks []).s
  generalize w.put [w.s.heap.objs.size] (.mu w.s.heap.objs.size) (w.s.heap.push { cls := .type "dict", data := .dict #[] }) w.s.toks [] = w1 at x1 I1 za p1 ⊢
  generalize w.s.heap.objs.size = a at za na ns hd ⊢
  refine wpAny_mono (hp p1) (fun vs u0 ⟨w2, x2, I2, r⟩ => ?_) fun u0 u0 e => e
  obtain ⟨kvs, c1, c2⟩ := repP_carries (hk w2) r
  have z2 := x2.mu a id _ _ za
  have p2 := p1.next x2 I2
  have ai : a ∉ K.ids := fun m => by obtain ⟨u1, z⟩ := p.V.ids a m; exact na _ z.tag
  refine ⟨kvs, c1, Heap.dictOf_iff.mpr ⟨_, z2.is, dict_new za⟩, fun h' hd' hs' => ?_⟩
  obtain ⟨o', e', d'⟩ := Heap.dictOf_iff.mp hd'
  obtain ⟨x3, p3, z3⟩ := own_step (t := w2.s.toks + vs.length) p2 ai z2 e' hs'.2
  exact ⟨_, a, ((x1.trans x2).ofN.trans x3).tight fun b q => .inr (q ▸ na), p3.I, na, hG ns z3 d' (repK_merged (RepK.mono x3.toMono l kvs c2) rfl .nil)⟩
end
section
variable {K : Ctx} {ρ : Rho} {σ σ' σ₁ σ₂ σ₃ : St} {a b c d : D} {l : List D} {pos p' apos : Pos} {kx vx ky vy o : Expr} {w : W} {n : Nat} {args : List Expr} {x y : Str}
theorem TP_ds1 {k : Str} (hk : TE K ρ (eval kx K.env) σ (.str k) σ₁) (hv : TE K ρ (eval vx K.env) σ₁ d σ₂) : TP K ρ (eval (.Dict [some kx] [vx] pos) K.env) σ (fun a => GD K.C a [(k, d)]) σ₂ :=
  dict_priv (knd := strKind K.C.prog K.C.w) (kd := .str) (l := [(k, d)]) (pairs := [pairS K kx vx pos]) (fun u0 u0 u0 => strIs) (fun ne z e r => ⟨_, _, ne, z, e, by rw [repS_K]; exact r⟩) (TKV_cons hk hv TKV_nil) rfl (List.cons_ne_nil _ _) (Nat.le_of_ble_eq_true rfl)
theorem TP_push {t : Sem Value} {obj : Obj} {G : Addr → W → Prop} (hf : obj.isFreed = false) (hG : ∀ {a w}, a ≠ sysModules → At w (.mu a) a obj → G a w) (h : ∀ {s : Shared} {Q E}, Q (.ref s.heap.objs.size) { s with heap := s.heap.push obj } → wpAny K.C.M K.A t Q E s) : TP K ρ t σ G σ := fun w E p => h (by
  obtain ⟨x1, I1⟩ := new_priv (o := obj) (t := w.s.toks) p.I hf
  exact ⟨w.put [w.s.heap.objs.size] (.mu w.s.heap.objs.size) (w.s.heap.push obj) w.s.toks [], _, x1, I1, .of p.I (Heap.fresh0 _), hG (sys_ne p.I) ⟨if_pos (.head _), Heap.get?_push_size _ hf⟩⟩)
theorem TP_d0 : TP K ρ (eval (.Dict [] [] pos) K.env) σ (fun a => GD K.C a []) σ := TP_push rfl (fun ne z => ⟨_, [], ne, z, dict_new z, rfl⟩) fun q => wpAny_Dict_empty q
theorem TP_seq (w₁ : W) {w : W} {vs : List Value} {t : Tok} (p : Ok K ρ σ w) (r : RepL K.C w l vs) : OutP K.C w σ (fun a => GL K.C a l) (.ref w.s.heap.objs.size) { w.s with heap := w.s.heap.push (seqObj "list" vs 0), toks := t } := by
  obtain ⟨x1, I1⟩ := new_priv (o := seqObj "list" vs 0) (t := t) p.I rfl
  exact ⟨_, _, x1, I1, .of p.I (Heap.fresh0 _), vs, 0, ⟨if_pos (.head _), Heap.get?_push_size _ rfl⟩, x1.repL r⟩
theorem TP_list (hl : TA K ρ args pos σ l σ₁) (hz : l.length ≤ 1000000) : TP K ρ (eval (.List args pos) K.env) σ (fun a => GL K.C a l) σ₁ := fun u0 u0 p =>
  wpAny_List (hl.go p fun vs w1 x1 p1 r1 => ⟨by rw [r1.length, sizeLine_is]; exact Nat.le_trans hz (by decide), (TP_seq w1 (t := w1.s.toks) p1 r1).after p.I x1⟩)
theorem TE_join {ss : List Str} {sep : Str} (hj : JoinOk sep ss = true) (ho : TE K ρ (eval o K.env) σ (.str sep) σ₁) (i : IsL σ₂ a (ss.map .str)) (hl : TA K ρ args pos σ₁ [a] σ₂) (hf : (unstarred args && decide (args.length < 30) && (apos.endLine == pos.line)) = true := by rfl) (hb : attributeBase o "join" K.env (eval o K.env) = eval o K.env := by rfl) : TE K ρ (eval (.Call (.Attribute o "join" apos) args [] pos) K.env) σ (.str (Txt.join sep ss)) σ₂ :=
  TE_meth mf_join has_str ho hl (fun p ⟨t, e⟩ ⟨_, _, r, e'⟩ => by
    subst e e'
    obtain ⟨u1, b, vs, n, z, r⟩ := i.at p.I r
    obtain ⟨ts, e1, e2⟩ := repL_strs r
    subst e2
    exact SC.join (l := ts) ⟨_, z.is, rfl, n, rfl⟩ e1 hj fun t' k => out_str p.I _ _ _) hf hb
theorem TE_split0 (h1 : x.length ≤ 16777216) (h2 : (Builtin.Str.spaceWords x (x.length + 1)).length ≤ 16777216) (ho : TE K ρ (eval o K.env) σ (.str x) σ₁) (hf : (unstarred [] && decide (([] : List Expr).length < 30) && (apos.endLine == pos.line)) = true := by rfl) (hb : attributeBase o "split" K.env (eval o K.env) = eval o K.env := by rfl) : TE K ρ (eval (.Call (.Attribute o "split" apos) [] [] pos) K.env) σ (.lst ((Txt.words x).map .str)) σ₁ :=
  TE_meth mf_split has_str ho TL_nil (fun p ⟨t, e⟩ e' => by cases e; cases e'; exact split0_ok p.I h1 h2) hf hb
theorem TE_split1 (h0 : (y.length == 0) = false) (h1 : x.length ≤ 16777216) (h2 : (Builtin.Str.partsBetween x (Builtin.Str.occurrences x y 0 x.length (x.length + 1)) y.length).length ≤ 16777216) (ho : TE K ρ (eval o K.env) σ (.str x) σ₁) (hl : TA K ρ args pos σ₁ [.str y] σ₂)
    (hf : (unstarred args && decide (args.length < 30) && (apos.endLine == pos.line)) = true := by rfl) (hb : attributeBase o "split" K.env (eval o K.env) = eval o K.env := by rfl) : TE K ρ (eval (.Call (.Attribute o "split" apos) args [] pos) K.env) σ (.lst ((Txt.split x y).map .str)) σ₂ :=
  TE_meth mf_split has_str ho hl (fun p ⟨t, e⟩ ⟨_, _, ⟨u, e2⟩, e'⟩ => by cases e; cases e2; cases e'; exact split1_ok p.I h0 h1 h2) hf hb
theorem TE_count (ho : TE K ρ (eval o K.env) σ (.str x) σ₁) (hl : TA K ρ args pos σ₁ [.str y] σ₂) (hf : (unstarred args && decide (args.length < 30) && (apos.endLine == pos.line)) = true := by rfl) (hb : attributeBase o "count" K.env (eval o K.env) = eval o K.env := by rfl) : TE K ρ (eval (.Call (.Attribute o "count" apos) args [] pos) K.env) σ (.int (Txt.count x y)) σ₂ :=
  TE_meth mf_count has_str ho hl (fun p ⟨t, e⟩ ⟨_, _, ⟨u, e2⟩, e'⟩ => by cases e; cases e2; cases e'; exact SC.count (out_int p.I _ _ _)) hf hb
theorem TE_append (hn : σ₁[n]? = some (.lst l)) (hn2 : σ₂[n]? = some (.lst l)) (hz : l.length ≤ 16777216) (ho : TE K ρ (eval o K.env) σ (.loc n) σ₁) (hl : TA K ρ args pos σ₁ [d] σ₂) (hf : (unstarred args && decide (args.length < 30) && (apos.endLine == pos.line)) = true := by rfl) (hb : attributeBase o "append" K.env (eval o K.env) = eval o K.env := by rfl) :
    TE K ρ (eval (.Call (.Attribute o "append" apos) args [] pos) K.env) σ .none (σ₂.set n (.lst (l ++ [d]))) :=
  TE_meth mf_append (has_lst (.o hn)) ho hl (fun p ro ⟨v, _, rv, e'⟩ => by
    subst e'
    obtain ⟨aa, em, vs, k, z, r⟩ := ob_at p.I hn2 ro
    refine wpAny_list_append_plain (items := vs.toArray) ⟨k, z.is⟩ (fun h' hp hs => ?_) (by rw [sizeLine_is, List.size_toArray, r.length]; exact hz)
    obtain ⟨n', e'⟩ := hp
    exact (lst_upd (t := _) p.I z em hs (vs' := vs ++ [v]) (k' := n') (by show _ = some ({ cls := .type "list", data := .seq (vs ++ [v]).toArray n' } : Obj); rw [← List.push_toArray]; exact e') (r.append (m := [d]) ⟨v, [], rv, rfl⟩)).out (d := .none) rfl) hf hb
theorem TE_pop0 (hn : σ₁[n]? = some (.lst (d :: l))) (hn2 : σ₂[n]? = some (.lst (d :: l))) (hz : l.length ≤ 1000000) (ho : TE K ρ (eval o K.env) σ (.loc n) σ₁) (hl : TA K ρ args pos σ₁ [.int 0] σ₂) (hf : (unstarred args && decide (args.length < 30) && (apos.endLine == pos.line)) = true := by rfl) (hb : attributeBase o "pop" K.env (eval o K.env) = eval o K.env := by rfl) :
    TE K ρ (eval (.Call (.Attribute o "pop" apos) args [] pos) K.env) σ d (σ₂.set n (.lst l)) :=
  TE_meth mf_pop (has_lst (.o hn)) ho hl (fun p ro ⟨v, _, ⟨u, e2⟩, e'⟩ => by
    subst e2 e'
    obtain ⟨aa, em, vs, k, z, y, rest, r1, r2⟩ := ob_at p.I hn2 ro
    have hlen := r2.length
    refine call_meets PySem.F.slot_list_pop ⟨_, z.is, rfl⟩ PySem.F.entry_list_pop (PySem.F.args_list_pop_2 _ _) (MeetsSeq.list_pop_at aa (y :: rest).toArray k 0 u 0 y (by decide) (by simp [seqIndex?]) rfl (by rw [sizeLine_is, List.size_toArray, List.length_cons]; omega)) ⟨z.is, ?_⟩
    obtain ⟨k', e'⟩ := isL_update (ws := rest) (f := fun xs => xs.eraseIdxIfInBounds 0) z.is (by rw [List.eraseIdxIfInBounds_toArray]; rfl)
    exact (lst_upd (t := _) p.I z em (Heap.SameBut.update ..) e' r2).out r1) hf hb
theorem get_call {κ : Type} [DecidableEq κ] {C : Cx} {A : Around} {w : W} {E : Value → Shared → Prop} {knd : KeyKind C.prog C.w κ} {p : Addr} {o : Obj} {t : Tag} {kvs : List (κ × Value)} {l : List (κ × D)} {k : κ} {kv v2 : Value} {e : D} (I : Inv C σ w) (hk : knd.is k kv = true) (ne : p ≠ sysModules) (z : At w t p o) (d : o.IsDictOf knd kvs) (r : RepK C w l kvs) (r2 : Rep C w e v2) :
    wpAny C.M A (call (.builtin "dict.get") [.ref p, kv, v2]) (Out C w σ ((kget l k).getD e)) E w.s := by
  have hd : w.s.heap.DictOf knd p kvs := Heap.dictOf_iff.mpr ⟨o, z.is, d⟩
  refine call_meetsIn PySem.F.slot_dict_get hd.typeIs PySem.F.entry_dict_get (PySem.F.args_dict_get_3 _ _ _) (meets_dict_get_default knd p (k := k) hk (ref_sys ne) v2) ⟨_, hd.mapOf, ?_⟩
  rcases kget_K k r with ⟨e1, e2⟩ | ⟨d, v, e1, e2, rv⟩
  · rw [e1, e2]; exact out_rep I r2 _
  · rw [e1, e2]; exact out_rep I rv _
theorem TE_getS {l : List (Str × D)} {k : Str} {e : D} (i : IsS σ₁ a l) (i2 : IsS σ₂ a l) (ho : TE K ρ (eval o K.env) σ a σ₁) (hl : TA K ρ args pos σ₁ [.str k, e] σ₂) (hf : (unstarred args && decide (args.length < 30) && (apos.endLine == pos.line)) = true := by rfl) (hb : attributeBase o "get" K.env (eval o K.env) = eval o K.env := by rfl) :
    TE K ρ (eval (.Call (.Attribute o "get" apos) args [] pos) K.env) σ ((kget l k).getD e) σ₂ :=
  TE_meth mf_get (has_ds i) ho hl (fun p ro ⟨v, _, ⟨u, e1⟩, v2, _, r2, e'⟩ => by
    subst e1 e'
    obtain ⟨u1, b, o, kvs, ne, z, d, r⟩ := i2.at p.I ro
    exact get_call p.I (strKind_is _ _ _ _) ne z d (repS_K l ▸ r) r2) hf hb
theorem TE_getI {l : List (Int × D)} {k : Int} {e : D} (i : IsI σ₁ a l) (i2 : IsI σ₂ a l) (ho : TE K ρ (eval o K.env) σ a σ₁) (hl : TA K ρ args pos σ₁ [.int k, e] σ₂) (hf : (unstarred args && decide (args.length < 30) && (apos.endLine == pos.line)) = true := by rfl) (hb : attributeBase o "get" K.env (eval o K.env) = eval o K.env := by rfl) :
    TE K ρ (eval (.Call (.Attribute o "get" apos) args [] pos) K.env) σ ((kget l k).getD e) σ₂ :=
  TE_meth mf_get (has_di i) ho hl (fun p ro ⟨v, _, ⟨u, e1⟩, v2, _, r2, e'⟩ => by
    subst e1 e'
    obtain ⟨u1, b, o, kvs, ne, z, d, r⟩ := i2.at p.I ro
    exact get_call p.I (intKind_is _ _ _ _) ne z d (repI_K l ▸ r) r2) hf hb
end
end Mine
end
section
open PySem PySem.W PyProof.Rows
namespace Mine
theorem fn_ga : typeLookup (.type "function") "__getattribute__" = pure (some (.builtin "object.__getattribute__")) := by rw [typeLookup_type, builtinLookup_eq_fast]; kernel_rfl
theorem fn_ga_none : typeLookup (.type "function") "__getattr__" = pure none := by rw [typeLookup_type, builtinLookup_eq_fast]; kernel_rfl
theorem fn_read : typeLookup (.type "function") "read" = pure none := by rw [typeLookup_type, builtinLookup_eq_fast]; kernel_rfl
theorem slot_fn_ga : Slot "function" "__getattribute__" "object.__getattribute__" :=
  .of (owner := "object") (n := "__getattribute__") (by rw [typeLookup_type, builtinLookup_eq_fast]; kernel_rfl) (by decide +kernel) (by decide +kernel) (by decide +kernel)
    (by first | exact .inl (by decide +kernel) | exact .inr (by decide +kernel)) (by rw [isSubtype_type]; kernel_rfl)
section
variable {prog : Program} {w : World} {A : Around} {E : Value → Shared → Prop} {s : Shared}
theorem fn_find {a dd : Addr} {o : Obj} {fd : FuncData} {m : Str → Option Value} {v : Value} {nm : Str} {Q : Builtin.ObjectAttr.Found → Shared → Prop} (hl : typeLookup (.type "function") nm = pure none) (ho : s.heap.get? a = some o) (hc : o.cls = .type "function") (hf : o.data = .func fd) (hd : o.dict = some dd) (hn : s.heap.Ns dd m) (hv : m nm = some v)
    (h : Q (.value v) s) : wpAny (model prog w) A (Builtin.ObjectAttr.find (.ref a) (.type "function") nm) Q E s := by
  unfold Builtin.ObjectAttr.find
  refine wpAny_bind (wpAny_of_eq hl ?_)
  refine wpAny_bind (m := Builtin.ObjectAttr.getOf none) (wpAny_pure ?_)
  refine wpAny_bind (m := Builtin.ObjectAttr.dataDescriptor? none none) (wpAny_pure ?_)
  dsimp only
  unfold Builtin.ObjectAttr.ownThenClass
  refine wpAny_bind ?_
  show wpAny _ _ (Builtin.ObjectAttr.ownDict a >>= Builtin.ObjectAttr.inDict nm) _ _ s
  refine wpAny_bind ?_
  unfold Builtin.ObjectAttr.ownDict loadHead
  refine wpAny_bind (wpAny_loadPart ho ?_)
  rw [hf]
  show wpAny _ _ (instanceDict a false) _ _ s
  unfold instanceDict
  refine wpAny_bind (wpAny_loadPart ho ?_)
  dsimp only
  rw [hc, hd]
  refine wpAny_pure ?_
  show wpAny _ _ (nsGet dd nm) _ _ s
  refine wpAny_nsGet hn ?_
  rw [hv]
  exact wpAny_bind (wpAny_rule (wpAny_pure h))
theorem fn_getattr {a dd : Addr} {o : Obj} {fd : FuncData} {m : Str → Option Value} {v : Value} {nm : Str} {ex : Bool} {Q : Value → Shared → Prop} (hl : typeLookup (.type "function") nm = pure none) (ho : s.heap.get? a = some o) (hc : o.cls = .type "function") (hf : o.data = .func fd) (hd : o.dict = some dd) (hn : s.heap.Ns dd m) (hv : m nm = some v) (hh : handedIn v = true)
    (h : Q v { s with toks := s.toks + 1 }) : wpAny (model prog w) A (getAttr (.ref a) nm ex) Q E s := by
  have hT : ∀ t, ({ s with toks := t } : Shared).TypeIs (.ref a) "function" := fun t => ⟨_, ho, hc⟩
  unfold getAttr getAttrBy
  refine wpAny_bind (wpAny_mkText (wpAny_holding (wpAny_bind (wpAny_typeOf (hT _) (wpAny_bind (wpAny_of_eq fn_ga ?_))))))
  dsimp only
  rw [if_neg (by decide)]
  unfold getAttrByItsOwn
  refine wpAny_bind (m := hookBefore (.type "function")) (wpAny_pure ?_)
  refine wpAny_bind (wpAny_attempt (wpAny_holding ?_))
  unfold callGetattribute
  rw [if_neg (by simp [onTheHeap])]
  unfold boundAndCalled
  refine wpAny_bind (wpAny_of_eq (slot_fn_ga.bind (.ref a)) ?_)
  refine wpAny_call_entry slot_fn_ga (hT _) F.entry_object_getattribute ?_ (F.args_object_getattribute_2 _ _)
  unfold Builtin.«object.__getattribute__»
  refine wpAny_bind (m := slotArgs "__getattribute__" 1 _) (wpAny_pure ?_)
  dsimp only
  refine wpAny_bind (wpAny_of_eq (a := nm) (by rfl) ?_)
  refine wpAny_bind (wpAny_typeOf (hT _) ?_)
  refine wpAny_bind (fn_find hl ho hc hf hd hn hv ?_)
  refine wpAny_pure ⟨_, rfl, ?_⟩
  show wpAny _ _ (handedOut v) _ _ _
  rw [handedOut_of hh]; exact wpAny_pure h
theorem fn_getmethod {a dd : Addr} {o : Obj} {fd : FuncData} {m : Str → Option Value} {v : Value} {nm : Str} {pl : Sem Bool} {Q : Value × List Value → Shared → Prop} (hl : typeLookup (.type "function") nm = pure none) (ho : s.heap.get? a = some o) (hc : o.cls = .type "function") (hf : o.data = .func fd) (hd : o.dict = some dd) (hn : s.heap.Ns dd m) (hv : m nm = some v) (hh : handedIn v = true)
    (h : Q (v, []) { s with toks := s.toks + 1 }) : wpAny (model prog w) A (getMethod (.ref a) nm pl) Q E s := by
  have hT : s.TypeIs (.ref a) "function" := ⟨_, ho, hc⟩
  unfold getMethod
  refine wpAny_bind (wpAny_specialOf hT fn_ga ?_)
  dsimp only
  rw [if_neg (by decide +kernel)]
  refine wpAny_bind (wpAny_specialOf hT fn_ga_none ?_)
  rw [if_neg (by decide)]
  refine wpAny_bind (wpAny_specialOf hT hl ?_)
  exact wpAny_bind (fn_getattr hl ho hc hf hd hn hv hh (wpAny_pure h))
end
open Builtin Builtin.ObjectAttr
theorem slot_fn_sa : Slot "function" "__setattr__" "object.__setattr__" :=
  .of (owner := "object") (n := "__setattr__") (by rw [typeLookup_type, builtinLookup_eq_fast]; kernel_rfl) (by decide +kernel) (by decide +kernel) (by decide +kernel)
    (by first | exact .inl (by decide +kernel) | exact .inr (by decide +kernel)) (by rw [isSubtype_type]; kernel_rfl)
theorem mro_fn : mroOf (.type "function") = pure [.type "function", .type "object"] := by first | rfl | kernel_rfl
theorem pass_fn (self : Value) : refuseLoop self "__setattr__" [.type "function", .type "object"] = pure () := by first | rfl | kernel_rfl
section
variable {prog : Program} {w : World} {A : Around} {E : Value → Shared → Prop} {s : Shared}
theorem fn_store {a : Addr} {o : Obj} {fd : FuncData} {v : Value} {nm : Str} {tk : Tok} {Q : Fin → Shared → Prop} (hl : typeLookup (.type "function") nm = pure none) (ho : s.heap.get? a = some o) (hc : o.cls = .type "function") (hf : o.data = .func fd) (hd : o.dict = none)
    (h : ∀ d h' tk, s.heap.get? d = none → d ≠ a → h'.Ns d (fun y => if y = nm then some v else none) → h'.get? a = some { o with dict := some d } → (∀ b ob, b ≠ a → s.heap.get? b = some ob → h'.get? b = some ob) → Q (.done (.ret .none)) { s with heap := h', toks := tk }) :
    wpAny (model prog w) A (Builtin.«object.__setattr__» ⟨[.ref a, .str nm tk, v], []⟩) Q E s := by
  have hT : s.TypeIs (.ref a) "function" := ⟨_, ho, hc⟩
  unfold Builtin.«object.__setattr__»
  refine wpAny_bind (m := refuseIfOverridden (.ref a) "__setattr__") ?_
  rw [refuse_eq]
  refine wpAny_bind (wpAny_typeOf hT (wpAny_bind (wpAny_of_eq mro_fn ?_)))
  rw [pass_fn]
  refine wpAny_pure ?_
  refine wpAny_bind (wpAny_of_eq (a := nm) (by rfl) ?_)
  refine wpAny_bind (wpAny_typeOf hT ?_)
  refine wpAny_bind (wpAny_of_eq hl ?_)
  refine wpAny_bind (m := storeTaker? none) (wpAny_pure ?_)
  dsimp only
  unfold storeInOwnDict
  refine wpAny_bind (m := ownStreamTells (.ref a) (.type "function")) (wpAny_pure ?_)
  rw [if_neg (by decide)]
  refine wpAny_bind ?_
  show wpAny _ _ (instanceDict a true) _ _ s
  unfold instanceDict
  refine wpAny_bind (wpAny_loadPart ho ?_)
  dsimp only
  rw [hc, hd]
  dsimp only
  rw [if_neg (by decide +kernel), hf]
  dsimp only
  have hx₁ : (s.heap.push { cls := .type "dict", data := .dict #[] }).get? a = some o := Heap.get?_push_of_some _ ho
  have hxs : a ≠ s.heap.objs.size := Nat.ne_of_lt (Heap.lt_size ho)
  refine wpAny_bind (wpAny_alloc ?_)
  refine wpAny_bind (wpAny_update hx₁ ?_)
  have hdm : dictMade (.type "function") a s.heap.objs.size = pure (some s.heap.objs.size) := by first | rfl | kernel_rfl
  rw [hdm]
  refine wpAny_pure ?_
  dsimp only
  have hgd : ((s.heap.push { cls := .type "dict", data := .dict #[] }).update a fun o => { cls := o.cls, dict := some s.heap.objs.size, data := o.data, slots := o.slots }).get? s.heap.objs.size
      = some { cls := .type "dict", data := .dict #[] } :=
    (Heap.get?_update_ne _ _ _ _ hxs.symm).trans (Heap.get?_push_at rfl rfl)
  have hnd : ((s.heap.push { cls := .type "dict", data := .dict #[] }).update a fun o => { cls := o.cls, dict := some s.heap.objs.size, data := o.data, slots := o.slots }).Ns s.heap.objs.size (fun u0 => none) :=
    ⟨_, #[], _, hgd, rfl, fun e he => absurd he (by simp), fun u0 => rfl⟩
  show wpAny _ _ (storeInDict s.heap.objs.size (.str nm tk) nm v) _ _ _
  unfold storeInDict newKeyGuard
  refine wpAny_bind (wpAny_pure (wpAny_bind (wpAny_nsSet1 (Heap.Ns1.of_empty hnd) fun h' hn' hs => ?_)))
  obtain ⟨oD, esD, epD, hoD, hdD, hcD⟩ := hn'.count (Within.cons nm v Within.nil)
  refine wpAny_bind (wpAny_lookBehind hoD (by rw [hdD]; exact pastItsLine_dict (Nat.le_trans hcD (by rw [List.length_cons, List.length_nil, sizeLine_eq]; omega))) ?_)
  refine wpAny_pure ?_
  refine h s.heap.objs.size h' _ (Heap.fresh0 _) hxs.symm ?_ ?_ fun b ob hbx hb => ?_
  · obtain ⟨o', es, ep, e1, e2, e3, eu, e4⟩ := hn'
    exact ⟨o', es, ep, e1, e2, e3, fun y => by rw [e4 y]⟩
  · refine (hs.2 a hxs).trans (Heap.get?_update_self _ hx₁ ?_)
    have hfr := (Heap.get?_some_iff.mp ho).2
    obtain ⟨oc, od, odt, osl⟩ := o
    cases odt <;> first | rfl | exact hfr
  · exact (hs.2 b (Nat.ne_of_lt (Heap.lt_size hb))).trans ((Heap.get?_update_ne _ _ _ _ hbx).trans (Heap.get?_push_of_some _ hb))
theorem fn_setattr {a : Addr} {o : Obj} {fd : FuncData} {v : Value} {nm : Str} {Q : Unit → Shared → Prop} (hl : typeLookup (.type "function") nm = pure none) (ho : s.heap.get? a = some o) (hc : o.cls = .type "function") (hf : o.data = .func fd) (hd : o.dict = none)
    (h : ∀ d h' tk, s.heap.get? d = none → d ≠ a → h'.Ns d (fun y => if y = nm then some v else none) → h'.get? a = some { o with dict := some d } → (∀ b ob, b ≠ a → s.heap.get? b = some ob → h'.get? b = some ob) → Q () { s with heap := h', toks := tk }) :
    wpAny (model prog w) A (setAttr (.ref a) nm v) Q E s := by
  have hT : ∀ t, ({ s with toks := t } : Shared).TypeIs (.ref a) "function" := fun t => ⟨_, ho, hc⟩
  unfold setAttr
  refine wpAny_bind (wpAny_mkText ?_)
  refine wpAny_bind (wpAny_callSpecial?_slot (hT _) slot_fn_sa ?_)
  refine wpAny_call_entry slot_fn_sa (hT _) F.entry_object_setattr ?_ (F.args_object_setattr_3 _ _ _)
  refine fn_store hl ho hc hf hd fun d h' tk e1 e2 e3 e4 e5 => ⟨_, rfl, ?_⟩
  exact wpAny_pure (h d h' tk e1 e2 e3 e4 e5)
end
section
variable {C : Cx} {w w' : W} {σ σ' : St} {n : Nat} {fs : List (Str × D)} {A : Around} {E : Value → Shared → Prop} {nm : Str} {d : D} {v u : Value}
theorem repN_get {x : Str} : ∀ {l : List (Str × D)} {m : Str → Option Value} {d : D}, RepN C w l m → kget l x = some d → ∃ v, m x = some v ∧ Rep C w d v
  | (j, y) :: l, m, d, r, e => by
    have e : (if j = x then some y else kget l x) = some d := e
    by_cases q : j = x
    · cases (if_pos q).symm.trans e; subst q; exact r.1
    · exact repN_get r.2 ((if_neg q).symm.trans e)
theorem fo_set (hl : typeLookup (.type "function") nm = pure none) (I : Inv C σ w) (hn : σ[n]? = some (.fo [])) (r : Rep C w (.loc n) v) (ru : Rep C w d u) : wpAny C.M A (setAttr v nm u) (fun u0 => Upd C σ w n (.fo [(nm, d)])) E w.s := by
  obtain ⟨a, em, q⟩ := ob_at I hn r
  cases q with
  | di ne => exact absurd rfl ne
  | no o fd z c f dd e =>
  refine fn_setattr hl z.is c f dd fun dx h' tk f1 f2 f3 f4 f5 => ?_
  have hk : ∀ b o, w.tag b ≠ .ob n → w.s.heap.get? b = some o → h'.get? b = some o := fun b o m e => f5 b o (fun q => m (q ▸ z.tag)) e
  have ch : Chg (· = .ob n) w (w.put [dx] (.ob n) h' tk []) := .put fun t m b o y => ⟨fun q => y.alive.no (List.mem_singleton.mp q ▸ f1), hk b o (fun q => m (y.tag.symm.trans q)) y.is⟩
  have x : Step NoF w (w.put [dx] (.ob n) h' tk []) := ch.step (fun q => nomatch q) fun u0 q => nomatch q
  obtain ⟨od, es, ep, e1, e2, e3, e4⟩ := f3
  refine ⟨_, x, I.set' (.inr ⟨rfl, get_lt hn⟩) ch (fun b m => List.mem_singleton.mp m ▸ ⟨od, e1⟩) (fun b ⟨o, e⟩ => ?_) (fun b m q => nomatch (I.dead b (List.mem_singleton.mp m ▸ f1)).symm.trans q) fun a' e' => ?_⟩
  · by_cases q : b = a
    · exact ⟨_, q ▸ f4⟩
    · exact ⟨o, f5 b o q e⟩
  · cases em.symm.trans e'
    refine .di (List.cons_ne_nil _ _) dx _ od fd es ep ⟨(if_neg fun m => f2 (List.mem_singleton.mp m).symm).trans z.tag, f4⟩ c f rfl ⟨if_pos (.head _), e1⟩ e2 e3 ⟨⟨u, ?_, x.rep ru⟩, trivial⟩
    rw [e4]; exact if_pos rfl
end
section
variable {K : Ctx} {ρ : Rho} {σ σ' σ₁ σ₂ σ₃ : St} {d : D} {n : Nat} {o e : Expr} {nm : Str} {apos p pos : Pos} {l : List D} {args : List Expr} {fs : List (Str × D)}
theorem TS_setf (hl : typeLookup (.type "function") nm = pure none) (he : TE K ρ (eval e K.env) σ d σ₁) (ho : TE K ρ (eval o K.env) σ₁ (.loc n) σ₂) (hn : σ₂[n]? = some (.fo [])) (hs : swapsWith e (some (.Attribute o nm p)) pos.line K.env = pure false := by rfl) :
    TS K ρ (exec (.Assign [.Attribute o nm p] e pos) K.env) σ .next ρ (σ₂.set n (.fo [(nm, d)])) := fun u0 u0 q =>
  plainObj_wpAny_Assign_Attribute (he.go q fun v w1 n1 => ho.go n1.p fun vo w2 n2 => wpAny_mono (fo_set hl n2.p.I hn n2.r (n2.x.rep n1.r)) (fun u0 u0 u => u.stmt q (n1.x.trans n2.x)) fun u0 u0 e => e) hs
theorem TE_fcall {j m : Nat} {c : List (Str × D)} {pl : Sem Bool} (h : LamTo K.C m j c l σ₂ d σ') (hj : m ≤ K.k) (hnm : typeLookup (.type "function") nm = pure none) (ho : TE K ρ (eval o K.env) σ (.loc n) σ₁) (hn : σ₁[n]? = some (.fo fs)) (hfs : kget fs nm = some (.lam j c)) (hu : unstarred args = true) (hl : TA K ρ args pos σ₁ l σ₂)
    (he : eval (.Call (.Attribute o nm apos) args [] pos) K.env = (do
      let ov ← eval o K.env
      standAt apos.atName
      let (f, first) ← holding [ov] (getMethod ov nm pl)
      callWith pos f first (backTo pos (starEach args K.env)) (backToKw pos (keywordEach [] K.env))) := by rfl) : TE K ρ (eval (.Call (.Attribute o nm apos) args [] pos) K.env) σ d σ' := fun u0 u0 q => by
  refine methodCall_KW (pl := pl) (ho.go q fun v w1 n1 => ?_) he
  obtain ⟨a, em, r⟩ := ob_at n1.p.I hn n1.r
  cases r with
  | no o fd z c f dd e => subst e; cases hfs
  | di ne dd oo od fd es ep z c f dd' zd e1 sk r =>
  obtain ⟨u, e2, ru⟩ := repN_get r hfs
  refine fn_getmethod hnm z.is c f dd' ⟨od, es, ep, zd.is, e1, sk, fun u0 => rfl⟩ e2 (rep_handed ru) ?_
  have ox := out_rep (t := w1.s.toks + 1) n1.p.I ru
  revert ox
  generalize ({ w1.s with toks := w1.s.toks + 1 } : Shared) = s2
  rintro ⟨w2, x2, I2, r2⟩
  show wpAny K.C.M K.A (callWith pos u [] (backTo pos (starEach args K.env)) []) _ _ _
  obtain ⟨la, lo, ld, e3, lz, l3⟩ := lam_obj r2
  subst e3
  exact Calls.callWith_function (o := lo) (fd := ld) (evalArgs_go hu hl (n1.p.next x2 I2) fun vs w3 x3 p3 r3 => ⟨⟨(x3.keep _ _ lz).is, l3⟩, call_go (q.o.room.less hj) h p3.I (x3.rep r2) r3 fun u s' o => o.after ((n1.x.trans x2).trans x3)⟩)
end
end Mine
end
section
open PySem PySem.W PyProof.Rows
namespace Mine
theorem codeAmong_other {pos : Pos} {a b : Int} {c : Value} (l : List Value) (h : TriplesOk l) (hn : codeAmong pos l = none) (hne : ¬ (a = pos.line ∧ b = pos.col)) : codeAmong pos (l ++ [rawInt a, rawInt b, c]) = none := by
  fun_induction TriplesOk l with
  | case1 =>
    have : (a == (pos.line : Int) && b == (pos.col : Int)) = false := by
      rw [Bool.eq_false_iff]; intro q; rw [Bool.and_eq_true, beq_iff_eq, beq_iff_eq] at q; exact hne q
    simp [codeAmong, rawInt, this]
  | case2 a' t b' u x rest ih =>
    simp only [List.cons_append, codeAmong] at hn ⊢
    split at hn
    · cases hn
    · rename_i q; rw [if_neg q]; exact ih h hn
  | case3 => exact h.elim
inductive CapL (K : Ctx) (ρ : Rho) (scope : Scope) : List (Str × D) → Prop
  | nil : CapL K ρ scope []
  | cons {x : Str} {d : D} {c : List (Str × D)} (i : Nat) (hi : K.ns[i]? = some x) (hr : ρ[i]? = some (some d)) (hb : (K.own.contains i && K.once.contains i && K.fd.scope.names.lookup x == some .cell && scope.names.lookup x == some .free) = true) (r : CapL K ρ scope c) : CapL K ρ scope ((x, d) :: c)
structure TabOk (K : Ctx) (σ : St) (t : Nat) (P : Addr) (ln : List (Nat × Nat)) : Prop where
  hd : ∃ c, K.env.code = .ref c ∧ CodeHd K.C.h0 c P
  ba : K.C.h0.BuiltinsAt K.C.mg P
  at_ : σ[t]? = some (.tab P ln)
section
variable {K : Ctx} {ρ : Rho} {σ σ' : St} {w : W} {params : Arguments} {body : Expr} {scope : Scope} {pos : Pos} {t : Nat} {P : Addr} {ln : List (Nat × Nat)} {E : Value → Shared → Prop} {c : List (Str × D)}
theorem lam_make {name qual : Str} {firstLine : Nat} (T : TabOk K σ t P ln) (hp : ln.contains (pos.line, pos.col) = false) (hfree : (scope.names.all fun p => !(p.2 == .free) || (K.fd.scope.names.lookup p.1 == some .cell || K.fd.scope.names.lookup p.1 == some .free)) = true) (q : Ok K ρ σ w) {Q : Value → Shared → Prop}
    (hq : ∀ w' cl c' ctv oc vs tt, Step NoF w w' → Inv K.C (σ.set t (.tab P (ln ++ [(pos.line, pos.col)]))) w' → ClOk K.env scope.names [] cl → At w' .fz c' oc → oc.data = .fields vs → vs[1]? = some (.str qual tt) →
      Q (.ref w'.s.heap.objs.size) { w'.s with heap := w'.s.heap.push (kla_obj name qual params body scope cl ((K.C.mg "__name__").getD .none) c' ctv) }) : wpAny K.C.M K.A (makeFunction name qual params (.expr body) scope K.env [] [] [] pos firstLine) Q E w.s := by
  have fre : ∀ x, (x, NameKind.free) ∈ scope.names → K.Cl x := fun x m => by
    have := List.all_eq_true.mp hfree _ m
    exact (Bool.or_eq_true_iff.mp this).elim (fun q => nomatch q) fun h => (Bool.or_eq_true_iff.mp h).imp (fun h => (q.o.kd x).trans (eq_of_beq h)) fun h => (q.o.kd x).trans (eq_of_beq h)
  obtain ⟨cl, h1, h2⟩ := closure_ok (scope := scope) (env := K.env) fun x m => q.o.has x (fre x m)
  have keep : ∀ b o, K.C.h0.get? b = some o → w.s.heap.get? b = some o := fun b o e => (q.I.base b o e).is
  obtain ⟨cc, hcode, hhd⟩ := T.hd
  obtain ⟨a, em⟩ : ∃ a, w.mn[t]? = some a := ⟨_, List.getElem?_eq_getElem (q.I.len ▸ get_lt T.at_)⟩
  obtain ⟨eP, ps, z, trip, none_⟩ := q.I.ok t _ a T.at_ em
  subst eP
  have hg : w.s.heap.Ns mainGlobals K.C.mg := by obtain ⟨o, es, ep, e, r⟩ := K.C.glob; exact ⟨o, es, ep, keep _ _ e, r⟩
  have hgP : mainGlobals ≠ a := fun q' => by
    obtain ⟨o, es, ep, e, hd, u1⟩ := hg
    rw [q', z.is] at e; cases e; cases hd
  have hB : w.s.heap.BuiltinsAt K.C.mg a := by
    obtain ⟨bm, o, b1, b2, b3, b4, b5, b6⟩ := T.ba
    exact ⟨bm, o, b1, b2, b3, b4, keep _ _ b5, b6⟩
  refine kla_makeFunction (mg := K.C.mg) h1 q.o.glob hg hcode (hhd.keeps keep) z.is trip (none_ pos fun m => by rw [List.contains_iff_mem.mpr m] at hp; cases hp) hgP hB fun c' ctv h' tk hx hge hlt hrec htb => ?_
  have ch : Chg (· = .ob t) w (w.put [] .fz h' tk []) := .put fun t' m b o y => ⟨List.not_mem_nil, hx b o (fun q => m (by rw [← y.tag, q, z.tag])) y.is⟩
  have x : Step NoF w (w.put [] .fz h' tk []) := ch.step (fun q => nomatch q) fun u0 q => nomatch q
  have I' : Inv K.C (σ.set t (.tab a (ln ++ [(pos.line, pos.col)]))) (w.put [] .fz h' tk []) := q.I.set ch (fun u0 m => nomatch m) (fun b ⟨o, e⟩ => by
    by_cases q : b = a
    · exact ⟨_, q ▸ htb⟩
    · exact ⟨o, hx b o q e⟩) (fun u0 m => nomatch m) fun a' e' => by
    cases em.symm.trans e'
    refine ⟨rfl, _, ⟨z.tag, htb⟩, by rw [Array.toList_append]; exact TriplesOk_snoc _ _ _ _ trip, fun p' hp' => ?_⟩
    rw [Array.toList_append]
    refine codeAmong_other (pos := p') (a := pos.line) (b := pos.col) (c := .ref c') ps.toList trip (none_ p' fun m => hp' (List.mem_append_left _ m)) fun q => hp' (List.mem_append_right _ ?_)
    rw [show p'.line = pos.line from Int.ofNat.inj q.1.symm, show p'.col = pos.col from Int.ofNat.inj q.2.symm]
    exact .head _
  obtain ⟨c₂, oc, vs, tt, e1, e2, e3, e4⟩ := hrec
  cases e1
  exact hq (w.put [] .fz h' tk []) cl c' ctv oc vs tt x I' h2 ⟨q.I.dead c' (dead_of fun ⟨o, e⟩ => Nat.not_lt.mpr hge (Heap.lt_size e)), e2⟩ e3 e4
theorem capL_rep {cl : List (Str × Addr)} {w' : W} (q : Ok K ρ σ w) (x : Step NoF w w') (h2 : ClOk K.env scope.names [] cl) : ∀ {c : List (Str × D)}, CapL K ρ scope c → RepC K.C w' c cl
  | _, .nil => trivial
  | _, .cons i hi hr hb r => by
    rw [Bool.and_eq_true, Bool.and_eq_true, Bool.and_eq_true, List.contains_iff_mem, List.contains_iff_mem, beq_iff_eq, beq_iff_eq] at hb
    obtain ⟨⟨⟨b1, b2⟩, b3⟩, b4⟩ := hb
    have hk := (q.o.kd _).trans b3
    obtain ⟨c, ec⟩ := h2.has _ (mem_of_lookup b4)
    obtain ⟨e1, u1⟩ := (h2.from' _ _ ec).elim id fun q => nomatch q
    obtain ⟨o, ov, t, z, e2, u1, u2, val, own⟩ := q.V.cel _ c e1
    obtain ⟨v, e3, rv⟩ := val i _ hi (.inl hk) hr
    have ht : t = .fz := (own i b1 hi hk).trans (by unfold Ctx.tagOf; rw [hr]; exact if_pos b2)
    subst ht e3
    exact ⟨⟨c, o, v, ec, x.keep _ _ z, e2, x.rep rv⟩, capL_rep q x h2 r⟩
theorem TE_lam {j : Nat} (T : TabOk K σ t P ln) (hp : ln.contains (pos.line, pos.col) = false) (hLT : K.C.LT j ⟨params, body, scope⟩) (hc : CapL K ρ scope c) (hfree : (scope.names.all fun p => !(p.2 == .free) || (K.fd.scope.names.lookup p.1 == some .cell || K.fd.scope.names.lookup p.1 == some .free)) = true)
    (hall : (scope.names.all fun p => !(p.2 == .free) || (c.map (·.1)).contains p.1) = true) (hdef : defaultsOf params K.env = ([], []) := by rfl) : TE K ρ (eval (.Lambda params body scope pos) K.env) σ (.lam j c) (σ.set t (.tab P (ln ++ [(pos.line, pos.col)]))) := fun u0 u0 q =>
  kla_eval hdef (lam_make T hp hfree q fun w' cl c' ctv oc vs tt x I' h2 zc e3 e4 => by
    have g := grown (h := w'.s.heap.push (kla_obj "<lambda>" (K.env.qual ++ "<lambda>") params body scope cl ((K.C.mg "__name__").getD .none) c' ctv)) I' w'.s.toks fun b o e => Heap.get?_push_of_some _ e
    have hg : (w'.s.heap.push (kla_obj "<lambda>" (K.env.qual ++ "<lambda>") params body scope cl ((K.C.mg "__name__").getD .none) c' ctv)).get? w'.s.heap.objs.size = some (kla_obj "<lambda>" (K.env.qual ++ "<lambda>") params body scope cl ((K.C.mg "__name__").getD .none) c' ctv) := Heap.get?_push_size _ rfl
    have df := I'.dead _ (Heap.fresh0 w'.s.heap)
    revert g
    show Grown _ _ _ _ { w'.s with heap := w'.s.heap.push (kla_obj "<lambda>" (K.env.qual ++ "<lambda>") params body scope cl ((K.C.mg "__name__").getD .none) c' ctv) } → _
    generalize ({ w'.s with heap := w'.s.heap.push (kla_obj "<lambda>" (K.env.qual ++ "<lambda>") params body scope cl ((K.C.mg "__name__").getD .none) c' ctv) } : Shared) = s2
    rintro ⟨w2, x2, I2, e2, tg⟩
    refine ⟨w2, x.trans x2, I2, _, _, _, c', oc, _, ⟨(tg _).trans df, e2 ▸ hg⟩, rfl, x2.keep _ _ zc, ⟨hLT, rfl, rfl, rfl, rfl, rfl, rfl, rfl, rfl, ⟨vs, tt, e3, e4⟩, fun y a e => ?_⟩, capL_rep q (x.trans x2) h2 hc⟩
    obtain ⟨u1, m⟩ := (h2.from' y a e).elim id fun q => nomatch q
    have := (Bool.or_eq_true_iff.mp (List.all_eq_true.mp hall _ m)).elim (fun q => nomatch q) fun h => List.contains_iff_mem.mp h
    obtain ⟨⟨y', d⟩, m', e'⟩ := List.mem_map.mp this
    cases e'
    exact ⟨d, m'⟩)
theorem TE_lam0 (T : TabOk K σ t P ln) (hp : ln.contains (pos.line, pos.col) = false) (hfree : (scope.names.all fun p => !(p.2 == .free) || (K.fd.scope.names.lookup p.1 == some .cell || K.fd.scope.names.lookup p.1 == some .free)) = true) (hdef : defaultsOf params K.env = ([], []) := by rfl) :
    TE K ρ (eval (.Lambda params body scope pos) K.env) σ (.loc (σ.set t (.tab P (ln ++ [(pos.line, pos.col)]))).length) (σ.set t (.tab P (ln ++ [(pos.line, pos.col)])) ++ [.fo []]) := fun u0 u0 q =>
  kla_eval hdef (lam_make T hp hfree q fun w' cl c' ctv oc vs tt x I' h2 zc e3 e4 => (out_new (t := w'.s.toks) (c := .fo []) I' rfl fun w2 M z => .no _ _ z rfl rfl rfl rfl).after x)
end
end Mine
end
section
open PySem PySem.W PyProof.Rows
namespace Mine
theorem slot_cit_next : Slot "callable_iterator" "__next__" "callable_iterator.__next__" :=
  .of (owner := "callable_iterator") (n := "__next__") (by rw [typeLookup_type, builtinLookup_eq_fast]; kernel_rfl) (by decide +kernel) (by decide +kernel) (by decide +kernel)
    (by first | exact .inl (by decide +kernel) | exact .inr (by decide +kernel)) (by rw [isSubtype_type]; kernel_rfl)
theorem slot_cit_iter : Slot "callable_iterator" "__iter__" "callable_iterator.__iter__" :=
  .of (owner := "callable_iterator") (n := "__iter__") (by rw [typeLookup_type, builtinLookup_eq_fast]; kernel_rfl) (by decide +kernel) (by decide +kernel) (by decide +kernel)
    (by first | exact .inl (by decide +kernel) | exact .inr (by decide +kernel)) (by rw [isSubtype_type]; kernel_rfl)
theorem entry_cit_next : entryFor table "callable_iterator.__next__" = some Builtin.«callable_iterator.__next__» := entryFor_of_tree (by kernel_rfl)
theorem entry_cit_iter : entryFor table "callable_iterator.__iter__" = some Builtin.«dict_keyiterator.__iter__» := entryFor_alias (id' := "dict_keyiterator.__iter__") (by kernel_rfl) rfl (by decide +kernel) (by kernel_rfl)
theorem args_cit_next (a : Value) : argsOk "callable_iterator.__next__" ⟨[a], []⟩ := by unfold argsOk; kernel_rfl
theorem args_cit_iter (a : Value) : argsOk "callable_iterator.__iter__" ⟨[a], []⟩ := by unfold argsOk; kernel_rfl
section
variable {M : Model} {A : Around} {E : Value → Shared → Prop} {s : Shared}
theorem wpAny_callBorrowed {f : Value} {pos : List Value} {Q : Value → Shared → Prop}
    (hc : codeAny M A (.call f ⟨pos, []⟩) (fun r s' => match r with | .ok (.ret v) => Q v s' | .ok _ => False | .error e => E e s') s) : wpAny M A (callBorrowed f pos) Q E s := fun Γ p hΓ => by
  unfold callBorrowed
  rw [Sem.wp]
  refine wpCode_mono (fun r s' h => ?_) (hc _ p rfl (hΓ.enter _ none p (by intro x; cases x)))
  cases r with
  | error e => exact h
  | ok fl => cases fl <;> exact h
end
theorem meth_call : typeLookup (.type "method") "__call__" = pure (some (.builtin "method.__call__")) := by rw [typeLookup_type, builtinLookup_eq_fast]; kernel_rfl
theorem args_iter2 (a b : Value) : argsOk "iter" ⟨[a, b], []⟩ := by unfold argsOk; kernel_rfl
structure BoundFacts (C : Cx) (c : Addr) (nm : Str) (f : Addr) : Prop where
  hga : findIn C.K (.ref c) "__getattribute__" = some (some (.builtin "object.__getattribute__"))
  hk : findIn C.K (.ref c) "__getattr__" = some none
  hh : hasDictIn C.K c = true
  ha : findIn C.K (.ref c) nm = some (some (.ref f))
  fn : typeIn C.K (.ref f) = some (.type "function")
  hgf : specialIn C.K (.ref f) "__get__" = some (some (.builtin "function.__get__"))
  ht : takesIn C.K (.ref f) = some false
  hc : copiedNames.contains nm = false
section
variable {A : Around} {E : Value → Shared → Prop} {s : Shared}
theorem cit_borrows {bm x fr : Addr} {o : Obj} {fd : FuncData} {prog : Program} {w : World} (h1 : s.heap.get? bm = some (bmObj fr x)) (h2 : s.heap.get? fr = some o) (h3 : o.data = .func fd) {Q : Bool → Shared → Prop} (h : Q true s) : wpAny (model prog w) A (borrowsExactly (.ref bm)) Q E s := by
  unfold borrowsExactly
  refine wpAny_bind (wpAny_load h1 ?_)
  dsimp only
  rw [if_pos (by decide)]
  show wpAny _ _ (load fr >>= _) _ _ _
  refine wpAny_bind (wpAny_load h2 ?_)
  rw [h3]
  exact wpAny_pure h
end
section
variable {C : Cx} {A : Around} {w w' : W} {σ σ' σ₁ : St} {n m k : Nat} {E : Value → Shared → Prop} {y : Str} {v : Value}
inductive Nc (C : Cx) (k n : Nat) : Unit → St → Option D → Unit → St → Prop
  | some {σ σ₁ : St} {y : Str} {m m' : Nat} (h : σ[n]? = some (.cit m true)) (f : FnTo C k C.rc [.loc m] σ (.str y) σ₁) (h' : σ₁[n]? = some (.cit m' true)) (hy : y ≠ Str.empty) : Nc C k n () σ (some (.str y)) () σ₁
  | stop {σ σ₁ : St} {m m' : Nat} (h : σ[n]? = some (.cit m true)) (f : FnTo C k C.rc [.loc m] σ (.str Str.empty) σ₁) (h' : σ₁[n]? = some (.cit m' true)) : Nc C k n () σ none () (σ₁.set n (.cit m' false))
  | off {σ : St} {m : Nat} (h : σ[n]? = some (.cit m false)) : Nc C k n () σ none () σ
theorem cit_run (hf : IsFn C C.rc) (R : Rm (k + 1) A) (f : FnTo C k C.rc [.loc m] σ (.str y) σ₁) (I : Inv C σ w) (hn : σ[n]? = some (.cit m true)) (r : Rep C w (.loc n) v) {m' : Nat} (hn1 : σ₁[n]? = some (.cit m' true)) {Q : Option Value → Shared → Prop}
    (h1 : ∀ w1 t, y ≠ Str.empty → Step NoF w w1 → Inv C σ₁ w1 → Q (some (.str y t)) w1.s) (h0 : ∀ w1, y = Str.empty → Step NoF w w1 → Inv C (σ₁.set n (.cit m' false)) w1 → Q none w1.s) : wpAny C.M A (pyNext v) Q E w.s := by
  obtain ⟨fo, fdd, hfo, hfd⟩ := hf.fo
  obtain ⟨a, em, bm, t, x, z, zb, ex⟩ := ob_at I hn r
  have hT : w.s.TypeIs (.ref a) "callable_iterator" := ⟨_, z.is, rfl⟩
  unfold pyNext
  refine wpAny_bind (wpAny_attempt (wpAny_callSpecial?_slot (name := Str.ofString "__next__") hT slot_cit_next (wpAny_call_entry slot_cit_next hT entry_cit_next ?_ (args_cit_next _))))
  unfold Builtin.«callable_iterator.__next__»
  refine wpAny_bind (m := slotArgs "__next__" 0 _) (wpAny_pure ?_)
  refine wpAny_bind (wpAny_field z.is rfl (x := .bool false) rfl ?_)
  rw [if_neg (by decide)]
  refine wpAny_bind (wpAny_field z.is rfl (x := .ref bm) rfl ?_)
  refine wpAny_bind (wpAny_attempt ?_)
  unfold callOutOfASlot
  refine wpAny_bind (cit_borrows zb.is (I.base _ _ hfo).is hfd ?_)
  rw [if_pos rfl]
  refine wpAny_callBorrowed (ks_codeAny_call_bound zb.is ?_)
  refine f (A := A.in1) R.in1 I rfl ⟨_, [], ⟨x, ex, rfl⟩, rfl⟩ fun u s1 o => ?_
  obtain ⟨w1, x1, I1, t', e'⟩ := o
  subst e'
  dsimp only
  obtain ⟨a', em', bm', t2, x', z', zb', ex'⟩ := ob_at I1 hn1 (x1.rep r)
  refine wpAny_bind (wpAny_field z'.is rfl (x := .bool false) rfl ?_)
  rw [if_neg (by decide)]
  refine wpAny_bind (wpAny_field z'.is rfl (x := .str Str.empty t2) rfl ?_)
  refine wpAny_bind (wpAny_holding (wpAny_eqBool_str ?_))
  by_cases hy : y = Str.empty
  · subst hy
    rw [if_neg (by decide)]
    refine wpAny_bind (wpAny_rule (wpAny_bind ?_))
    show wpAny _ _ (field (.ref a) 0 >>= fun old => slotLetsGo "callable_iterator.__next__" old _ >>= fun u0 => setField (.ref a) 0 .none >>= fun u0 => setField (.ref a) 1 .none >>= fun u0 => setField (.ref a) 2 (.bool true)) _ _ _
    refine wpAny_bind (wpAny_field z'.is rfl (x := .ref bm') rfl ?_)
    refine wpAny_bind ?_
    unfold slotLetsGo
    refine wpAny_bind (cit_borrows zb'.is (I1.base _ _ hfo).is hfd ?_)
    rw [if_pos rfl]
    refine wpAny_pure ?_
    refine wpAny_bind (wpAny_setField_rec z'.is (Nat.lt_of_lt_of_le (by decide : _ < 3) (Nat.le_of_eq (by rfl))) fun h3 e3 hs3 => ?_)
    refine wpAny_bind (wpAny_setField_rec e3 (Nat.lt_of_lt_of_le (by decide : _ < 3) (Nat.le_of_eq (by rfl))) fun h4 e4 hs4 => ?_)
    refine wpAny_setField_rec e4 (Nat.lt_of_lt_of_le (by decide : _ < 3) (Nat.le_of_eq (by rfl))) fun h5 e5 hs5 => ?_
    refine wp_stop (A := A.in1) R.handled fun h6 e hk hx => ?_
    obtain ⟨oe, hoe, hce⟩ := hx
    refine wpAny_bind (wpAny_isInstance (T := "StopIteration") (b := true) ⟨oe, hoe, hce⟩ isSubtype_stop ?_)
    have hga : h6.get? a = some citEnd := hk _ _ e5
    have u := ob_upd (t := w1.s.toks) (co := .cit m' false) I1 z' hga (fun b o hb q => hk _ _ ((hs5.2 b hb).trans ((hs4.2 b hb).trans ((hs3.2 b hb).trans q)))) fun M a2 q => by cases em'.symm.trans q; exact ⟨z'.tag, hga⟩
    revert u
    show Upd _ _ _ _ _ { w1.s with heap := h6 } → wpAny _ _ _ _ _ { w1.s with heap := h6 }
    generalize ({ w1.s with heap := h6 } : Shared) = s6
    rintro ⟨w2, x2, I2⟩
    exact wpAny_pure (h0 w2 rfl (x1.trans x2) I2)
  · rw [if_pos (by rw [Bool.not_eq_true']; exact decide_eq_false fun q => hy q.symm)]
    exact wpAny_pure ⟨_, rfl, wpAny_pure (h1 w1 t' hy x1 I1)⟩
theorem cit_off (R : Rm k A) (I : Inv C σ w) (hn : σ[n]? = some (.cit m false)) (r : Rep C w (.loc n) v) {Q : Option Value → Shared → Prop} (h : ∀ w1, Step NoF w w1 → Inv C σ w1 → Q none w1.s) : wpAny C.M A (pyNext v) Q E w.s := by
  obtain ⟨a, em, z⟩ := ob_at I hn r
  have z : At w (.ob n) a citEnd := z
  have hT : w.s.TypeIs (.ref a) "callable_iterator" := ⟨_, z.is, rfl⟩
  unfold pyNext
  refine wpAny_bind (wpAny_attempt (wpAny_callSpecial?_slot (name := Str.ofString "__next__") hT slot_cit_next (wpAny_call_entry slot_cit_next hT entry_cit_next ?_ (args_cit_next _))))
  unfold Builtin.«callable_iterator.__next__»
  refine wpAny_bind (m := slotArgs "__next__" 0 _) (wpAny_pure ?_)
  refine wpAny_bind (wpAny_field z.is rfl (x := .bool true) rfl ?_)
  rw [if_pos (by decide)]
  refine wpAny_bind (wpAny_rule (wpAny_bind (wp_stop (A := A.in1) R.handled fun h' e hk hx => ?_)))
  obtain ⟨oe, hoe, hce⟩ := hx
  refine wpAny_bind (wpAny_isInstance (T := "StopIteration") (b := true) ⟨oe, hoe, hce⟩ isSubtype_stop (wpAny_pure ?_))
  exact h (w.put [] .fz h' w.s.toks []) (.grow hk) (I.grow hk)
inductive JC (n : Nat) (it : Addr) (_ : Unit) (w : W) : Prop
  | mk (e : w.mn[n]? = some it) : JC n it () w
theorem itr_cit {target : Expr} {it c : Addr} (hf : IsFn C C.rc) (R : Rm (k + 1) A) (hgo : ∀ v, letOwnedTupleGo target (.ref it) v = pure ()) : ItrL C A target (.ref it) c (JC n it) (Nc C k n) where
  stable := fun ⟨e⟩ x u0 => ⟨x.main _ _ e⟩
  item := by
    rintro _ σ w d _ σ' E I ⟨e⟩ nc
    cases nc with
    | some h f h' hy =>
      refine cit_run hf R f I h ⟨it, e, rfl⟩ h' (fun w1 t u0 x1 I1 => ⟨_, rfl, ?_⟩) fun u0 q => absurd q hy
      rw [hgo]
      exact wpAny_pure ⟨w1, x1.ofN, I1, ⟨x1.main _ _ e⟩, t, rfl⟩
  done := by
    rintro _ σ w _ σ' E I ⟨e⟩ nc
    cases nc with
    | stop h f h' => exact cit_run hf R f I h ⟨it, e, rfl⟩ h' (fun u0 u0 q => absurd rfl q) fun w1 u0 x1 I1 => ⟨rfl, w1, w1.s.heap, w1.s.toks, x1.ofN, I1, fun u0 u0 u0 e => e⟩
    | off h => exact cit_off R I h ⟨it, e, rfl⟩ fun w1 x1 I1 => ⟨rfl, w1, w1.s.heap, w1.s.toks, x1.ofN, I1, fun u0 u0 u0 e => e⟩
end
section
variable {K : Ctx} {ρ ρ' : Rho} {σ σ' σ₁ : St} {n m k : Nat} {target iter : Expr} {body els : List Stmt} {pos : Pos} {fl : Fl} {w : W} {j : Nat}
theorem TS_forc {co : AO} (hf : IsFn K.C K.C.rc) (hk : k + 1 ≤ K.k) (hi : TE K ρ (eval iter K.env) σ (.loc n) σ₁) (hn : σ₁[n]? = some co) (hco : co = .cit m true ∨ co = .cit m false) (r : Run K (Nc K.C k n) target body els j () ρ σ₁ fl ρ' σ') (hgo : ∀ it v, letOwnedTupleGo target (.ref it) v = pure () := by intros; rfl) (hs : ∀ x, foldedSetIterable iter K.env x = pure x := by exact fun u0 => rfl) :
    TS K ρ (exec (.For target iter body els pos) K.env) σ fl ρ' σ' := fun w u0 p =>
  wpAny_For (hi.go p fun v w1 n1 => by
    have hT : ∃ a, w1.mn[n]? = some a ∧ v = .ref a ∧ w1.s.TypeIs (.ref a) "callable_iterator" := by
      rcases hco with rfl | rfl
      · obtain ⟨a, em, bm, t, x, z, u1, u2⟩ := ob_at n1.p.I hn n1.r; exact ⟨a, em, rfl, _, z.is, rfl⟩
      · obtain ⟨a, em, z⟩ := ob_at n1.p.I hn n1.r; exact ⟨a, em, rfl, _, At.is z, rfl⟩
    obtain ⟨a, em, e, hT⟩ := hT
    subst e
    refine wpAny_pyIter_slot hT slot_cit_iter (wpAny_call_entry slot_cit_iter hT entry_cit_iter (wpAny_pure ⟨_, rfl, "callable_iterator", _, hT, slot_cit_next.lookup, ?_⟩) (args_cit_iter _))
    have ng : NoT w mainGlobals := fun b q => by
      obtain ⟨u1, y⟩ := p.I.own b _ q
      obtain ⟨o, es, ep, e, u1⟩ := K.C.glob
      exact nomatch (p.I.base _ _ e).tag.symm.trans y.tag
    exact codeAny_mono (run_loop (itr_cit hf (p.o.room.less hk) (hgo a)) p ng n1.x n1.p.I ⟨em⟩ r) (by rintro r s' ⟨f, rfl, o⟩; exact o)) hs
theorem TE_citer {x : Str} {p apos cp : Pos} {kd : Nat} {o : Expr} {nm : Str} {c : Addr} {fs : List (Str × D)} (hb : Bi K.C x (.builtin "iter")) (hk : K.fd.glob x = true) (Bf : BoundFacts K.C c nm K.C.rc) (ho : TE K ρ (eval o K.env) σ (.loc n) σ₁) (hn : σ₁[n]? = some (.ins c fs)) (hfs : kget fs nm = none)
    (he : eval (.Attribute o nm apos) K.env = (do
      let v ← eval o K.env
      standAt apos.atName
      let r ← holding [v] (getAttr v nm true)
      letTemporaryGo o v r
      pure r) := by rfl) : TE K ρ (eval (.Call (.Name x p) [.Attribute o nm apos, .Constant (.str Str.empty) kd cp] [] pos) K.env) σ (.loc σ₁.length) (σ₁ ++ [.cit n true]) := fun u0 u0 q => by
  have hu : unstarred [.Attribute o nm apos, .Constant (.str Str.empty) kd cp] = true := rfl
  refine wpAny_Call_Name_kw (builtin_ok q hk hb (Calls.callWith_builtin (noStar hu) (evalArgs_spliced (noStar hu) ?_)))
  refine wpAny_items_cons (e := .Attribute o nm apos) (rest := [.Constant (.str Str.empty) kd cp]) (pos := pos) (Attribute_any_ (ho.go q fun v w1 n1 => ?_) he) (starEach_cons rfl)
  obtain ⟨xx, em, dx, es, kk, z, zd, r⟩ := ob_at n1.p.I hn n1.r
  have lk : lookIn nm (dictOf es kk) = some none := by
    rcases repE_look (name := nm) (k := kk) r with ⟨_, e⟩ | ⟨_, _, e, _⟩
    · exact e
    · exact nomatch hfs.symm.trans e
  have X1 : K.C.K.In ({ w1.s with toks := w1.s.toks + 1 } : Shared).heap := n1.p.I.inK
  refine get_bind n1.p.I.inK (instAt z.is zd.is) Bf.hga (findObj_fn Bf.hh Bf.ha Bf.hgf Bf.ht Bf.hc lk) Bf.hk (wpAny_call (fn_get (s := { w1.s with toks := w1.s.toks + 1 }) X1 Bf.fn ?_))
  show wpAny _ _ (handedOut _) _ _ _
  rw [handedOut_of rfl]
  refine wpAny_pure ?_
  have g := grown (h := w1.s.heap.push (methodObj (.ref K.C.rc) (.ref xx))) n1.p.I (w1.s.toks + 1) fun b o e => Heap.get?_push_of_some _ e
  have hbm : (w1.s.heap.push (methodObj (.ref K.C.rc) (.ref xx))).get? w1.s.heap.objs.size = some (bmObj K.C.rc xx) := Heap.get?_push_size _ rfl
  have df := n1.p.I.dead _ (Heap.fresh0 w1.s.heap)
  show wpAny _ _ _ _ _ { w1.s with heap := w1.s.heap.push (methodObj (.ref K.C.rc) (.ref xx)), toks := w1.s.toks + 1 }
  revert g
  generalize ({ w1.s with heap := w1.s.heap.push (methodObj (.ref K.C.rc) (.ref xx)), toks := w1.s.toks + 1 } : Shared) = s2
  rintro ⟨w2, x2, I2, e2, tg⟩
  have zb : At w2 .fz w1.s.heap.objs.size (bmObj K.C.rc xx) := ⟨(tg _).trans df, e2 ▸ hbm⟩
  show wpAny _ _ _ (fun vs => _) _ _
  generalize w1.s.heap.objs.size = bm at zb
  refine wpAny_items_cons (e := .Constant (.str Str.empty) kd cp) (rest := []) (pos := pos) (wpAny_Constant_str (wpAny_items_nil (pos := pos) ?_)) rfl
  obtain ⟨w3, hs3, x3, I3⟩ : ∃ w3 : W, w3.s = { w2.s with toks := w2.s.toks + 1 } ∧ Step NoF w2 w3 ∧ Inv K.C σ₁ w3 := ⟨w2.put [] .fz w2.s.heap (w2.s.toks + 1) [], rfl, .grow fun u0 u0 e => e, I2.grow fun u0 u0 e => e⟩
  rw [← hs3]
  have zb3 := x3.keep _ _ zb
  refine Calls.call_function_entry (by decide +kernel) (by decide +kernel) kdk_entry_iter (args_iter2 _ _) ?_
  unfold Builtin.«iter»
  refine wpAny_bind (m := someArgs "iter" 1 2 _) (wpAny_of_eq (a := [Value.ref bm, .str Str.empty _]) (by first | rfl | kernel_rfl!) ?_)
  dsimp only
  refine wpAny_bind (wpAny_specialOf (name := Str.ofString "__call__") ⟨_, zb3.is, rfl⟩ meth_call ?_)
  rw [if_neg (by decide)]
  have x13 := (n1.x.trans x2).trans x3
  exact wpAny_bind (wpAny_rule (wpAny_bind (wpAny_newObj_type (wpAny_pure ⟨_, rfl, (out_new (t := w3.s.toks) (c := .cit n true) I3 rfl fun w4 M z => ⟨bm, _, xx, z, M.keep _ _ zb3, M.main _ _ (x3.main _ _ (x2.main _ _ em))⟩).after x13⟩))))
end
end Mine
end
section
open PySem PySem.W PyProof.Rows
namespace Mine
structure End where
  fl : Fl
  ρ : Rho
  σ : St
section
variable {K : Ctx} {ι α β : Type} {N : ι → St → Option D → ι → St → Prop} {target test : Expr} {body els : List Stmt}
inductive Turn (K : Ctx) {ι β : Type} (N : ι → St → Option D → ι → St → Prop) (target : Expr) (body els : List Stmt) (P : β → Prop) (m : β → Nat) (i : β → ι) (R : β → Rho) (S : β → St) (F : β → End) (b : β) : Prop
  | done (i' : ι) (σ₁ : St) (h : N (i b) (S b) none i' σ₁) (e : TS K (R b) (execs els K.env) σ₁ (F b).fl (F b).ρ (F b).σ)
  | next (b' : β) (d : D) (σ₁ : St) (ρ₁ : Rho) (hP : P b') (hm : m b' < m b) (hF : F b' = F b) (h : N (i b) (S b) (some d) (i b') σ₁) (a : Asg K target d (R b) ρ₁) (fl : Fl) (hfl : fl = .next ∨ fl = .cont) (t : TS K ρ₁ (execs body K.env) σ₁ fl (R b') (S b'))
  | brk (i' : ι) (d : D) (σ₁ : St) (ρ₁ : Rho) (hf : (F b).fl = .next) (h : N (i b) (S b) (some d) i' σ₁) (a : Asg K target d (R b) ρ₁) (t : TS K ρ₁ (execs body K.env) σ₁ .brk (F b).ρ (F b).σ)
  | ret (i' : ι) (d e : D) (σ₁ : St) (ρ₁ : Rho) (hf : (F b).fl = .ret e) (h : N (i b) (S b) (some d) i' σ₁) (a : Asg K target d (R b) ρ₁) (t : TS K ρ₁ (execs body K.env) σ₁ (.ret e) (F b).ρ (F b).σ)
theorem Run.wf {P : β → Prop} {m : β → Nat} {i : β → ι} {R : β → Rho} {S : β → St} {F : β → End} (H : ∀ b, P b → Turn K N target body els P m i R S F b) : ∀ (n : Nat) (b : β), P b → m b ≤ n → Run K N target body els n (i b) (R b) (S b) (F b).fl (F b).ρ (F b).σ
  | n, b, p, hm => by
    cases H b p with
    | done i' σ₁ h e => exact .done h e
    | next b' d σ₁ ρ₁ hP hl hF h a fl hfl t =>
      cases n with
      | zero => exact absurd (Nat.lt_of_lt_of_le hl hm) (Nat.not_lt_zero _)
      | succ n =>
        have r := Run.wf H n b' hP (Nat.le_of_lt_succ (Nat.lt_of_lt_of_le hl hm))
        rw [hF] at r
        cases hfl with
        | inl q => subst q; exact .next h a t r
        | inr q => subst q; exact .cont h a t r
    | brk i' d σ₁ ρ₁ hf h a t => rw [hf]; exact .brk h a t
    | ret i' d e σ₁ ρ₁ hf h a t => rw [hf]; exact .ret h a t
theorem Run.scan {e : α → D} (R : List α → Rho) (S : List α → St) : ∀ (xs pre : List α), (∀ pre' x todo, pre ++ xs = pre' ++ x :: todo → ∃ ρ₁ fl, Asg K target (e x) (R pre') ρ₁ ∧ (fl = .next ∨ fl = .cont) ∧ TS K ρ₁ (execs body K.env) (S pre') fl (R (pre' ++ [x])) (S (pre' ++ [x]))) →
    Run K Nl target body [] xs.length (xs.map e) (R pre) (S pre) .next (R (pre ++ xs)) (S (pre ++ xs))
  | [], pre, _ => by rw [List.append_nil]; exact .done (.none _) TS_nil
  | x :: xs, pre, h => by
    obtain ⟨ρ₁, fl, a, hfl, t⟩ := h pre x xs rfl
    have r := Run.scan R S xs (pre ++ [x]) (by rw [List.append_assoc]; exact h)
    rw [List.append_assoc] at r
    cases hfl with
    | inl q => subst q; exact .next (.some _ _ _) a t r
    | inr q => subst q; exact .cont (.some _ _ _) a t r
theorem Run.scan0 {e : α → D} {ds : List D} (R : List α → Rho) (S : List α → St) (xs : List α) (hd : ds = xs.map e) (h : ∀ done x todo, xs = done ++ x :: todo → ∃ ρ₁ fl, Asg K target (e x) (R done) ρ₁ ∧ (fl = .next ∨ fl = .cont) ∧ TS K ρ₁ (execs body K.env) (S done) fl (R (done ++ [x])) (S (done ++ [x]))) :
    Run K Nl target body [] xs.length ds (R []) (S []) .next (R xs) (S xs) := hd ▸ Run.scan R S xs [] h
theorem EnvOk.drop {ρ : Rho} {w : W} {i : Nat} (h : K.once.contains i = false) (V : EnvOk K w ρ) : EnvOk K w (ρ.set i none) :=
  have le : Le (ρ.set i none) ρ := fun j d e => by
    by_cases q : i = j
    · subst q
      have := (List.getElem?_eq_some_iff.mp e).1
      rw [List.length_set] at this
      exact nomatch (List.getElem?_set_self this).symm.trans e
    · exact (List.getElem?_set_ne q).symm.trans e
  have tg : ∀ j, K.tagOf (ρ.set i none) j = K.tagOf ρ j := fun j => by
    unfold Ctx.tagOf
    by_cases q : i = j
    · subst q
      have hn : i ∉ K.once := fun m => by rw [List.contains_iff_mem.mpr m] at h; cases h
      rw [if_neg hn]
      cases (ρ.set i none)[i]? with
      | none => cases ρ[i]? with
        | none => rfl
        | some o => cases o <;> rfl
      | some o => cases o <;> cases ρ[i]? with
        | none => rfl
        | some o => cases o <;> rfl
    · rw [List.getElem?_set_ne q]
  ⟨let ⟨o, es, ep, z, e, sk, val⟩ := V.loc; ⟨o, es, ep, z, e, sk, fun i y d a b c => val i y d a b (le i d c)⟩,
   fun y c a => let ⟨o, ov, t, z, e, ne, ht, val, own⟩ := V.cel y c a; ⟨o, ov, t, z, e, ne, ht, fun i d a b c => val i d a b (le i d c), fun i a b c => (own i a b c).trans (tg i).symm⟩, V.ids⟩
theorem TS.fgt {ρ ρ' : Rho} {u : Sem Flow} {σ σ' : St} {fl : Fl} (is : List Nat) (h : TS K ρ u σ fl ρ' σ') (hi : (is.all fun i => !K.once.contains i) = true := by rfl) : TS K ρ u σ fl (is.foldl (fun r i => r.set i none) ρ') σ' := by
  induction is generalizing ρ' with
  | nil => exact h
  | cons i is ih =>
    have hi := Bool.and_eq_true_iff.mp hi
    exact ih (ρ' := ρ'.set i none) (fun u0 u0 p => wpAny_mono (h p) (fun u0 u0 ⟨w1, x1, I1, V1, f⟩ => ⟨w1, x1, I1, V1.drop ((Bool.not_eq_true' _).mp hi.1), f⟩) fun u0 u0 e => e) hi.2
theorem TS_nilf {ρ : Rho} {σ : St} (is : List Nat) (hi : (is.all fun i => !K.once.contains i) = true := by rfl) : TS K ρ (execs [] K.env) σ .next (is.foldl (fun r i => r.set i none) ρ) σ := TS.fgt is TS_nil hi
inductive WTurn (K : Ctx) {β : Type} (test : Expr) (body : List Stmt) (P : β → Prop) (m : β → Nat) (R : β → Rho) (S : β → St) (F : β → Rho × St) (b : β) : Prop
  | done (h : R b = (F b).1) (t : TB K (R b) (isTrue test K.env (eval test K.env)) (S b) false (F b).2)
  | next (b' : β) (σ₁ : St) (hP : P b') (hm : m b' < m b) (hF : F b' = F b) (t : TB K (R b) (isTrue test K.env (eval test K.env)) (S b) true σ₁) (u : TS K (R b) (execs body K.env) σ₁ .next (R b') (S b'))
theorem WRun.wf {P : β → Prop} {m : β → Nat} {R : β → Rho} {S : β → St} {F : β → Rho × St} (H : ∀ b, P b → WTurn K test body P m R S F b) : ∀ (n : Nat) (b : β), P b → m b ≤ n → WRun K test body n (R b) (S b) (F b).1 (F b).2
  | n, b, p, hm => by
    cases H b p with
    | done h t => rw [← h]; exact .done t
    | next b' σ₁ hP hl hF t u =>
      cases n with
      | zero => exact absurd (Nat.lt_of_lt_of_le hl hm) (Nat.not_lt_zero _)
      | succ n =>
        have r := WRun.wf H n b' hP (Nat.le_of_lt_succ (Nat.lt_of_lt_of_le hl hm))
        rw [hF] at r
        exact .next t u r
end
end Mine
end
section
open PySem PySem.W PyProof.Rows
namespace Mine
inductive Frz : AO → D → Prop
  | lst (l : List D) : Frz (.lst l) (.lst l)
  | ds (l : List (Str × D)) : Frz (.ds l) (.ds l)
  | di (l : List (Int × D)) : Frz (.di l) (.di l)
section
variable {C : Cx} {σ : St} {w w' : W} {n : Nat} {c : AO} {d : D} {v : Value} {s : Shared}
theorem frz_put {a : Addr} {o : Obj} (I : Inv C σ w) (z : At w (.ob n) a o) : Step NoF w (w.put [a] .fz w.s.heap w.s.toks []) ∧ Inv C (σ.set n .dead) (w.put [a] .fz w.s.heap w.s.toks []) ∧ At (w.put [a] .fz w.s.heap w.s.toks []) .fz a o := by
  have c : Chg (· = .ob n) w (w.put [a] .fz w.s.heap w.s.toks []) := .put fun t m b o y => ⟨fun q => m (by rw [← y.tag, List.mem_singleton.mp q, z.tag]), y.is⟩
  exact ⟨c.step (fun q => nomatch q) (fun u0 q => nomatch q), I.set c (fun b m => List.mem_singleton.mp m ▸ ⟨o, z.is⟩) (fun u0 e => e) (fun b m q => by rw [List.mem_singleton.mp m, z.tag] at q; cases q) fun u0 u0 => trivial, if_pos (.head _), z.is⟩
theorem Out.frz (h : σ[n]? = some c) (f : Frz c d) : Out C w σ (.loc n) v s → Out C w (σ.set n .dead) d v s
  | ⟨w₂, x, I, a, e, q⟩ => by
    subst q
    have k := I.ok _ _ _ h e
    cases f with
    | lst l =>
      obtain ⟨vs, m, z, r⟩ := k
      obtain ⟨y, I', z'⟩ := frz_put I z
      exact ⟨w₂.put [a] .fz w₂.s.heap w₂.s.toks [], x.trans y, I', a, vs, m, z', RepL.mono y.toMono _ _ r⟩
    | ds l =>
      obtain ⟨o, vs, m, z, dd, r⟩ := k
      obtain ⟨y, I', z'⟩ := frz_put I z
      exact ⟨w₂.put [a] .fz w₂.s.heap w₂.s.toks [], x.trans y, I', a, o, vs, m, z', dd, RepS.mono y.toMono _ _ r⟩
    | di l =>
      obtain ⟨o, vs, m, z, dd, r⟩ := k
      obtain ⟨y, I', z'⟩ := frz_put I z
      exact ⟨w₂.put [a] .fz w₂.s.heap w₂.s.toks [], x.trans y, I', a, o, vs, m, z', dd, RepI.mono y.toMono _ _ r⟩
end
section
variable {K : Ctx} {ρ ρ' : Rho} {σ σ₁ σ₂ : St} {n : Nat} {c : AO} {d d' : D} {t : Sem Value} {u : Sem Flow} {fl : Fl}
theorem TE_frz (h : TE K ρ t σ (.loc n) σ₁) (hn : σ₁[n]? = some c) (f : Frz c d) : TE K ρ t σ d (σ₁.set n .dead) := fun u0 u0 p => wpAny_mono (h p) (fun u0 u0 o => o.frz hn f) fun u0 u0 e => e
theorem ac {e : Expr} {r : List Expr} {l : List D} {pos : Pos} (he : TE K ρ (eval e K.env) σ d σ₁) (hr : TA K ρ r pos σ₁ l σ₂) (hs : unstarred [e] = true := by rfl) : TA K ρ (e :: r) pos σ (d :: l) σ₂ := TL_cons hs he hr
theorem an {pos : Pos} : TA K ρ [] pos σ [] σ := TL_nil
theorem a1 {e : Expr} {pos : Pos} (he : TE K ρ (eval e K.env) σ d σ₁) (hs : unstarred [e] = true := by rfl) : TA K ρ [e] pos σ [d] σ₁ := TL_cons hs he TL_nil
theorem a2 {e e' : Expr} {pos : Pos} (he : TE K ρ (eval e K.env) σ d σ₁) (he' : TE K ρ (eval e' K.env) σ₁ d' σ₂) (hs : unstarred [e] = true := by rfl) (hs' : unstarred [e'] = true := by rfl) : TA K ρ [e, e'] pos σ [d, d'] σ₂ := TL_cons hs he (TL_cons hs' he' TL_nil)
structure Fn (C : Cx) (x : Str) (params : Arguments) (scope : Scope) (body : List Stmt) (fa : Addr) : Prop where
  glb : Glb C x (.ref fa)
  at_ : ∃ c, FnAt C fa params scope body c
theorem call {x : Str} {params : Arguments} {scope : Scope} {body : List Stmt} {fa : Addr} {j : Nat} {l : List D} {args : List Expr} {p pos : Pos} (F : Fn K.C x params scope body fa) (h : FnTo K.C j fa l σ₁ d σ₂) (hl : TA K ρ args pos σ l σ₁) (hj : Nat.ble j K.k = true := by rfl) (hk : K.fd.glob x = true := by kernel_rfl) (hu : unstarred args = true := by rfl) : TE K ρ (eval (.Call (.Name x p) args [] pos) K.env) σ d σ₂ :=
  TE_call h (Nat.le_of_ble_eq_true hj) F.glb (let ⟨_, a⟩ := F.at_; a.isFn) hk hu hl
theorem fn_to {C : Cx} {x : Str} {params : Arguments} {f : Fd} {body : List Stmt} {fa : Addr} {k : Nat} {l : List D} (F : Fn C x params f.scope body fa) (hlim : C.h0.NoLimit) (B : fnB f params [] = true) (st : StoL f (params.args.map (·.arg)) l (List.replicate f.ns.length none) ρ) (b : ∀ c, FnAt C fa params f.scope body c → Body C k f c body ρ σ d σ₁) : FnTo C (k + 1) fa l σ d σ₁ :=
  let ⟨c, a⟩ := F.at_; call_fn hlim a B st (b c a)
theorem tv (i : Nat) {x : Str} {pos : Pos} (hr : ρ[i]? = some (some d)) (h : K.fd.var i x = true := by kernel_rfl) : TE K ρ (eval (.Name x pos) K.env) σ d σ := TE_var h hr
theorem TE.to (h : TE K ρ t σ d σ₁) (e : d = d' ∧ σ₁ = σ₂) : TE K ρ t σ d' σ₂ := e.1 ▸ e.2 ▸ h
theorem TE.val (h : TE K ρ t σ d σ₁) (e : d = d') : TE K ρ t σ d' σ₁ := e ▸ h
theorem TE.st (h : TE K ρ t σ d σ₁) (e : σ₁ = σ₂) : TE K ρ t σ d σ₂ := e ▸ h
theorem TS.st (h : TS K ρ u σ fl ρ' σ₁) (e : σ₁ = σ₂) : TS K ρ u σ fl ρ' σ₂ := e ▸ h
theorem TR.to (h : TR K ρ u σ d σ₁) (e : d = d' ∧ σ₁ = σ₂) : TR K ρ u σ d' σ₂ := e.1 ▸ e.2 ▸ h
theorem TB.to {t : Sem Bool} {a b : Bool} (h : TB K ρ t σ a σ₁) (e : a = b) : TB K ρ t σ b σ₁ := e ▸ h
end
section
variable {α : Type} {l : List α} {a b : α} {n : Nat}
theorem at_len : (l ++ [a])[l.length]? = some a := (List.getElem?_append_right (Nat.le_refl _)).trans (by rw [Nat.sub_self]; rfl)
theorem set_len : (l ++ [a]).set l.length b = l ++ [b] := by rw [List.set_append_right _ _ (Nat.le_refl _), Nat.sub_self]; rfl
theorem at_app (h : l[n]? = some a) : (l ++ [b])[n]? = some a := (List.getElem?_append_left (List.getElem?_eq_some_iff.mp h).1).trans h
theorem at_apps {m : List α} (h : l[n]? = some a) : (l ++ m)[n]? = some a := (List.getElem?_append_left (List.getElem?_eq_some_iff.mp h).1).trans h
end
end Mine
end
section
open PySem PySem.W PyProof.Rows
namespace Mine
structure FnT where
  params : Arguments
  scope : Scope
  body : List Stmt
structure Prt where
  f : FnT
  e : Expr
  b : List Stmt
  o : List Stmt
noncomputable def e0 : Expr := .Constant .none 0 default
noncomputable def f0 : FnT := ⟨⟨[], [], none, [], [], none, []⟩, default, []⟩
noncomputable def prt : Stmt → Prt
  | .FunctionDef _ a b _ _ _ s _ _ _ => ⟨⟨a, s, b⟩, e0, [], []⟩
  | .ClassDef _ _ _ b _ _ _ _ _ _ _ => ⟨f0, e0, b, []⟩
  | .Assign _ e _ => ⟨f0, e, [], []⟩
  | .For _ _ b _ _ => ⟨f0, e0, b, []⟩
  | .If t b o _ => ⟨f0, t, b, o⟩
  | .While t b _ _ => ⟨f0, t, b, []⟩
  | _ => ⟨f0, e0, [], []⟩
noncomputable def fnOf (s : Stmt) : FnT := (prt s).f
noncomputable def methOf (s : Stmt) (k : Nat) : FnT := fnOf ((prt s).b.getD k (.Pass default))
noncomputable def pT (k : Nat) : FnT := fnOf (PySem.Challenge.pw_xc0017_03.main.body.getD k (.Pass default))
noncomputable def pM (k m : Nat) : FnT := methOf (PySem.Challenge.pw_xc0017_03.main.body.getD k (.Pass default)) m
noncomputable def fd4 : Fd := ⟨(pT 10).scope, ["callers", "nc", "calls"], [0, 1, 2], []⟩
theorem fd4_ok : fnB fd4 (pT 10).params [] = true := by kernel_rfl
noncomputable def sumC (l : List (Str × Int)) : Int := (l.map (·.2)).sum
theorem sumC_snoc (l : List (Str × Int)) (p : Str × Int) : sumC (l ++ [p]) = sumC l + p.2 := by unfold sumC; rw [List.map_append, List.sum_append]; exact congrArg _ (Int.add_zero _)
theorem count_body {C : Cx} {k : Nat} {c : Addr} {σ : St} (l : List (Str × Int)) : Body C k fd4 c (pT 10).body [some (.ds (l.map fun p => (p.1, .int p.2))), none, none] σ (.int (sumC l)) σ := .ret fun A env hc => by
  refine TR_cons (TS_asg (i := 1) TE_int rfl rfl rfl) ?_
  refine TR_cons (TS_for (TI_values (tv 0 rfl)) (Run.scan0 (R := fun b => [some (.ds (l.map fun p => (p.1, .int p.2))), some (.int (sumC b)), none]) (S := fun u0 => σ) l (List.map_map ..) fun done x todo e => ?_)) ?_
  · rw [sumC_snoc]; exact ⟨_, _, .v (i := 2) rfl rfl, .inl rfl, TS_cons (TS_aug (i := 1) (by kernel_rfl) rfl (tv 2 rfl) ibin_add rfl) (TS_nilf [2])⟩
  · exact TR_stop (TR_ret (tv 1 rfl))
end Mine
end
section
open PySem PySem.W PyProof.Rows
namespace Mine
section
variable {α β : Type} [DecidableEq α]
noncomputable def aget : List (α × β) → α → Option β
  | [], _ => none
  | (j, d) :: r, k => if j = k then some d else aget r k
noncomputable def aset : List (α × β) → α → β → List (α × β)
  | [], k, d => [(k, d)]
  | (j, e) :: r, k, d => if j = k then (j, d) :: r else (j, e) :: aset r k d
noncomputable def mapD (f : β → D) (l : List (α × β)) : List (α × D) := l.map fun p => (p.1, f p.2)
theorem kget_map (f : β → D) : ∀ (l : List (α × β)) (k : α), kget (mapD f l) k = (aget l k).map f
  | [], _ => rfl
  | (j, d) :: r, k => by
    show (if j = k then some (f d) else kget (mapD f r) k) = (if j = k then some d else aget r k).map f
    by_cases h : j = k
    · rw [if_pos h, if_pos h]; rfl
    · rw [if_neg h, if_neg h]; exact kget_map f r k
theorem kset_map (f : β → D) : ∀ (l : List (α × β)) (k : α) (d : β), kset (mapD f l) k (f d) = mapD f (aset l k d)
  | [], _, _ => rfl
  | (j, e) :: r, k, d => by
    show (if j = k then (j, f d) :: mapD f r else (j, f e) :: kset (mapD f r) k (f d)) = mapD f (if j = k then (j, d) :: r else (j, e) :: aset r k d)
    by_cases h : j = k
    · rw [if_pos h, if_pos h]; rfl
    · rw [if_neg h, if_neg h]; exact congrArg ((j, f e) :: ·) (kset_map f r k d)
theorem mapD_len (f : β → D) (l : List (α × β)) : (mapD f l).length = l.length := List.length_map _
theorem aset_len : ∀ (l : List (α × β)) (k : α) (d : β), (aset l k d).length ≤ l.length + 1
  | [], k, d => Nat.le_refl _
  | (j, e) :: r, k, d => by
    show (if j = k then (j, d) :: r else (j, e) :: aset r k d).length ≤ _
    split
    · exact Nat.le_succ _
    · exact Nat.succ_le_succ (aset_len r k d)
theorem aset_app : ∀ (l : List (α × β)) (k : α) (d : β), k ∉ l.map (·.1) → aset l k d = l ++ [(k, d)]
  | [], _, _, _ => rfl
  | (j, e) :: r, k, d, h => (if_neg fun (z : j = k) => h (z ▸ .head _)).trans (congrArg ((j, e) :: ·) (aset_app r k d fun m => h (.tail _ m)))
end
noncomputable def intD (a : List (Str × Int)) : List (Str × D) := mapD .int a
noncomputable def addC (a b : List (Str × Int)) : List (Str × Int) := b.foldl (fun acc p => aset acc p.1 ((aget acc p.1).getD 0 + p.2)) a
theorem addC_len : ∀ (b a : List (Str × Int)), (addC a b).length ≤ a.length + b.length
  | [], a => Nat.le_refl _
  | p :: b, a => by
    have h1 := addC_len b (aset a p.1 ((aget a p.1).getD 0 + p.2))
    have h2 := aset_len a p.1 ((aget a p.1).getD 0 + p.2)
    rw [List.length_cons]
    exact Nat.le_trans h1 (by omega)
noncomputable def fd3 : Fd := ⟨(pT 9).scope, ["target", "source", "new_callers", "func", "caller"], [0, 1, 2, 3, 4], []⟩
theorem fd3_ok : fnB fd3 (pT 9).params [] = true := by kernel_rfl
structure Names (C : Cx) : Prop where
  lim : C.h0.NoLimit
  range : Bi C "range" (.type "range")
  enum : Bi C "enumerate" (.type "enumerate")
  list : Bi C "list" (.type "list")
  tuple : Bi C "tuple" (.type "tuple")
  int : Bi C "int" (.type "int")
  iter : Bi C "iter" (.builtin "iter")
  len : Bi C "len" (.builtin "len")
  sum : Bi C "sum" (.builtin "sum")
  min : Bi C "min" (.builtin "min")
  zip : Bi C "zip" (.type "zip")
  next : Bi C "next" (.builtin "next")
  ord : Bi C "ord" (.builtin "ord")
  chr : Bi C "chr" (.builtin "chr")
  hex : Bi C "hex" (.builtin "hex")
  isinst : Bi C "isinstance" (.builtin "isinstance")
theorem intD_set (l : List (Str × Int)) (k : Str) (v : Int) : kset (intD l) k (.int v) = intD (aset l k v) := kset_map .int l k v
theorem intD_get (l : List (Str × Int)) (k : Str) : kget (intD l) k = (aget l k).map .int := kget_map .int l k
theorem addC_snoc (a b : List (Str × Int)) (p : Str × Int) : addC a (b ++ [p]) = aset (addC a b) p.1 ((aget (addC a b) p.1).getD 0 + p.2) := List.foldl_append
theorem addc_body {C : Cx} {k : Nat} {c : Addr} {σ : St} (G : Names C) (a b : List (Str × Int)) (ha : (a.map (·.1)).Nodup) (hl : a.length + b.length ≤ 1000000) :
    Body C k fd3 c (pT 9).body [some (.ds (intD a)), some (.ds (intD b)), none, none, none] σ (.ds (intD (addC a b))) (σ ++ [.dead]) := .ret fun A env hc => by
  refine TR_cons (TS_asg (i := 2) (TP_d0.loc made_D) rfl rfl rfl) ?_
  refine TR_cons (TS_for (TI_items (tv 0 rfl)) (Run.scan0 (R := fun u0 => [some (.ds (intD a)), some (.ds (intD b)), some (.loc σ.length), none, none]) (S := fun l => σ ++ [.ds (intD l)]) a (List.map_map ..) fun done x todo e => ?_)) ?_
  · have hk : kset (intD done) x.1 (.int x.2) = intD (done ++ [x]) := (intD_set ..).trans (congrArg intD (aset_app _ _ _ fun m => by
      rw [e, List.map_append] at ha; exact (List.nodup_append.mp ha).2.2 _ m _ (.head _) rfl))
    have hz : (intD done).length ≤ 1000000 := by rw [intD, mapD_len]; have := congrArg List.length e; rw [List.length_append] at this; omega
    exact ⟨_, _, .t (.cons (i := 3) rfl rfl (.cons (i := 4) rfl rfl (.nil _))), .inl rfl, TS_cons (TS.st (TS_seti (tv 4 rfl) (tv 2 rfl) (tv 3 rfl) at_len hz) (set_len.trans (by rw [hk]))) (TS_nilf [3, 4])⟩
  refine TR_cons (TS_for (TI_items (tv 1 rfl)) (Run.scan0 (R := fun u0 => [some (.ds (intD a)), some (.ds (intD b)), some (.loc σ.length), none, none]) (S := fun l => σ ++ [.ds (intD (addC a l))]) b (List.map_map ..) fun done x todo e => ?_)) ?_
  · have hz : (intD (addC a done)).length ≤ 1000000 := by rw [intD, mapD_len]; have := congrArg List.length e; rw [List.length_append] at this; have := addC_len done a; omega
    rw [addC_snoc]
    have hg := intD_get (addC a done) x.1
    cases q : aget (addC a done) x.1 with
    | none =>
      rw [q] at hg
      exact ⟨_, _, .t (.cons (i := 3) rfl rfl (.cons (i := 4) rfl rfl (.nil _))), .inl rfl, TS_cons (TS_if_f (TB.to (TB_cmp (tv 3 rfl) (tv 2 rfl) (cmp_ind (.o at_len)) rfl) (by rw [hg]; rfl))
        (TS_cons (TS.st (TS_seti (tv 4 rfl) (tv 2 rfl) (tv 3 rfl) at_len hz) (set_len.trans (by rw [intD_set]; show _ = σ ++ [AO.ds (intD (aset (addC a done) x.1 (0 + x.2)))]; rw [Int.zero_add]))) TS_nil)) (TS_nilf [3, 4])⟩
    | some v =>
      rw [q] at hg
      exact ⟨_, _, .t (.cons (i := 3) rfl rfl (.cons (i := 4) rfl rfl (.nil _))), .inl rfl, TS_cons (TS_if_t (TB.to (TB_cmp (tv 3 rfl) (tv 2 rfl) (cmp_ind (.o at_len)) rfl) (by rw [hg]; rfl))
        (TS_cons (TS_if_f (TB_value (TE_isTuple G.isinst (by kernel_rfl) G.tuple (by kernel_rfl) (tv 4 rfl)) truth_bool)
          (TS_cons (TS.st (TS_augi (tv 2 rfl) (tv 3 rfl) at_len hg (tv 4 rfl) ibin_add at_len hz) (set_len.trans (by rw [intD_set]; rfl))) TS_nil)) TS_nil)) (TS_nilf [3, 4])⟩
  · exact TR_stop (TR_ret (TE.st (TE_frz (tv 2 rfl) at_len (.ds _)) set_len))
theorem addc_fn {C : Cx} {fa : Addr} {σ : St} (G : Names C) (F : Fn C "add_callers" (pT 9).params (pT 9).scope (pT 9).body fa) (a b : List (Str × Int)) (ha : (a.map (·.1)).Nodup) (hl : a.length + b.length ≤ 1000000) : FnTo C 1 fa [.ds (intD a), .ds (intD b)] σ (.ds (intD (addC a b))) (σ ++ [.dead]) :=
  fn_to (f := fd3) F G.lim fd3_ok (.cons 0 rfl rfl (.cons 1 rfl rfl .nil)) fun c u0 => addc_body G a b ha hl
theorem count_fn {C : Cx} {fa : Addr} {σ : St} (G : Names C) (F : Fn C "count_calls" (pT 10).params (pT 10).scope (pT 10).body fa) (l : List (Str × Int)) : FnTo C 1 fa [.ds (intD l)] σ (.int (sumC l)) σ :=
  fn_to (f := fd4) F G.lim fd4_ok (.cons 0 rfl rfl .nil) fun c u0 => count_body l
noncomputable def fd2 : Fd := ⟨(pT 8).scope, ["target", "source", "cc", "nc", "tt", "ct", "callers", "t_cc", "t_nc", "t_tt", "t_ct", "t_callers"], [0, 1, 2, 3, 4, 5, 6, 7, 8, 9, 10, 11], []⟩
theorem fd2_ok : fnB fd2 (pT 8).params [] = true := by kernel_rfl
noncomputable def statD (p : Int × Int × Int × Int) (a : List (Str × Int)) : D := .tup [.int p.1, .int p.2.1, .int p.2.2.1, .int p.2.2.2, .ds (intD a)]
theorem stats_fn {C : Cx} {f2 f3 : Addr} {σ : St} (G : Names C) (F2 : Fn C "add_func_stats" (pT 8).params (pT 8).scope (pT 8).body f2) (F3 : Fn C "add_callers" (pT 9).params (pT 9).scope (pT 9).body f3) (p q : Int × Int × Int × Int) (a b : List (Str × Int)) (ha : (a.map (·.1)).Nodup) (hl : a.length + b.length ≤ 1000000) :
    FnTo C 2 f2 [statD p a, statD q b] σ (statD (q.1 + p.1, q.2.1 + p.2.1, q.2.2.1 + p.2.2.1, q.2.2.2 + p.2.2.2) (addC a b)) (σ ++ [.dead]) :=
  fn_to (f := fd2) F2 G.lim fd2_ok (.cons 0 rfl rfl (.cons 1 rfl rfl .nil)) fun c u0 => .ret fun A env hc =>
    TR_cons (TS_asgT (tv 1 rfl) (.t (.cons (i := 2) rfl rfl (.cons (i := 3) rfl rfl (.cons (i := 4) rfl rfl (.cons (i := 5) rfl rfl (.cons (i := 6) rfl rfl (.nil _))))))) rfl rfl)
    (TR_cons (TS_asgT (tv 0 rfl) (.t (.cons (i := 7) rfl rfl (.cons (i := 8) rfl rfl (.cons (i := 9) rfl rfl (.cons (i := 10) rfl rfl (.cons (i := 11) rfl rfl (.nil _))))))) rfl rfl)
    (TR_stop (TR_ret (TE_tuple (ac (TE_bin (tv 2 rfl) (tv 7 rfl) bin_add) (ac (TE_bin (tv 3 rfl) (tv 8 rfl) bin_add) (ac (TE_bin (tv 4 rfl) (tv 9 rfl) bin_add) (ac (TE_bin (tv 5 rfl) (tv 10 rfl) bin_add) (a1 (call F3 (addc_fn G F3 a b ha hl) (a2 (tv 11 rfl) (tv 6 rfl)))))))) (Nat.le_of_ble_eq_true rfl)))))
end Mine
end
section
open PySem PySem.W PyProof.Rows
namespace Mine
structure Meth (C : Cx) (c : Addr) (x : Str) (params : Arguments) (scope : Scope) (body : List Stmt) (fa : Addr) : Prop where
  at_ : ∃ c, FnAt C fa params scope body c
theorem meth_to {C : Cx} {c : Addr} {x : Str} {params : Arguments} {f : Fd} {body : List Stmt} {fa : Addr} {k : Nat} {l : List D} {ρ : Rho} {σ σ₁ : St} {d : D} (F : Meth C c x params f.scope body fa) (hlim : C.h0.NoLimit) (B : fnB f params [] = true) (st : StoL f (params.args.map (·.arg)) l (List.replicate f.ns.length none) ρ) (b : ∀ c, Body C k f c body ρ σ d σ₁) : FnTo C (k + 1) fa l σ d σ₁ :=
  let ⟨c, a⟩ := F.at_; call_fn hlim a B st (b c)
theorem idx_t0 {σ : St} {d : D} {l : List D} : IdxOk σ (.tup (d :: l)) (.int 0) d := idx_tup (j := 0) rfl (by decide)
theorem idx_t1 {σ : St} {d e : D} {l : List D} : IdxOk σ (.tup (e :: d :: l)) (.int 1) d := idx_tup (j := 1) rfl (by decide)
noncomputable def fdTI : Fd := ⟨(pM 7 0).scope, ["self", "comp_select_list"], [0, 1], []⟩
theorem fdTI_ok : fnB fdTI (pM 7 0).params [] = true := by kernel_rfl
noncomputable def fdTC : Fd := ⟨(pM 7 1).scope, ["self", "left", "right", "index", "direction", "l", "r"], [0, 1, 2, 3, 4, 5, 6], []⟩
theorem fdTC_ok : fnB fdTC (pM 7 1).params [] = true := by kernel_rfl
noncomputable def tcF (d : D) : List (Str × D) := [("comp_select_list", d)]
noncomputable def ordD (d0 d1 : Int) : D := .lst [.tup [.int 0, .int d0], .tup [.int 1, .int d1]]
noncomputable def cmpR (d0 d1 : Int) (x y : Int × Str) : Int := if x.1 < y.1 then -d0 else if y.1 < x.1 then d0 else if x.2.cps.toList < y.2.cps.toList then -d1 else if y.2.cps.toList < x.2.cps.toList then d1 else 0
noncomputable def rowD (x : Int × Str) : D := .tup [.int x.1, .str x.2]
section
variable {C : Cx} {c fa : Addr} {σ : St} {n : Nat}
theorem tinit_fn (G : Names C) (F : Meth C c "__init__" (pM 7 0).params (pM 7 0).scope (pM 7 0).body fa) (Fa : InsFacts C c "comp_select_list") (d : D) (hn : σ[n]? = some (.ins c [])) : FnTo C 1 fa [.loc n, d] σ .none (σ.set n (.ins c (tcF d))) :=
  meth_to (f := fdTI) F G.lim fdTI_ok (.cons 0 rfl rfl (.cons 1 rfl rfl .nil)) fun c' => .none _ fun A env hc => TS_cons (TS_seta Fa (tv 1 rfl) (tv 0 rfl) hn (Nat.zero_le _)) TS_nil
theorem compare_fn (G : Names C) (F : Meth C c "compare" (pM 7 1).params (pM 7 1).scope (pM 7 1).body fa) (Fa : InsFacts C c "comp_select_list") (d0 d1 : Int) (x y : Int × Str) (hn : σ[n]? = some (.ins c (tcF (ordD d0 d1)))) : FnTo C 1 fa [.loc n, rowD x, rowD y] σ (.int (cmpR d0 d1 x y)) σ :=
  meth_to (f := fdTC) F G.lim fdTC_ok (.cons 0 rfl rfl (.cons 1 rfl rfl (.cons 2 rfl rfl .nil))) fun c' => .ret fun A env hc => by
    have hi : ∀ {K : Ctx} {o t : Expr} {p : Pos} {ρ : Rho}, K.C = C → TE K ρ (eval o K.env) σ (.loc n) σ → (eval (.Attribute o "comp_select_list" p) K.env = (do
      let v ← eval o K.env
      standAt p.atName
      let r ← holding [v] (getAttr v "comp_select_list" true)
      letTemporaryGo o v r
      pure r)) → TI K ρ (.Attribute o "comp_select_list" p) t σ [.tup [.int 0, .int d0], .tup [.int 1, .int d1]] σ := fun e h he => TI_of (TE_attr (e ▸ Fa) h hn (by kernel_rfl) he) iter_lst
    by_cases h1 : x.1 < y.1
    · rw [show cmpR d0 d1 x y = -d0 from if_pos h1]
      exact TR_stop (TR_of (TS_for (n := 0) (hi rfl (tv 0 rfl) rfl) (.ret (.some _ _ _) (.t (.cons (i := 3) rfl rfl (.cons (i := 4) rfl rfl (.nil _))))
        (TS_cons (TS_asg (i := 5) (TE_idx (tv 1 rfl) (tv 3 rfl) idx_t0) rfl rfl rfl) (TS_cons (TS_asg (i := 6) (TE_idx (tv 2 rfl) (tv 3 rfl) idx_t0) rfl rfl rfl)
          (TS_stop (TS_if_t (TB.to (TB_cmp (tv 5 rfl) (tv 6 rfl) cmp_lt rfl) (decide_eq_true h1)) (TS_stop (TS_ret (TE_neg (tv 4 rfl))) (fun q => nomatch q))) (fun q => nomatch q)))))))
    by_cases h2 : y.1 < x.1
    · rw [show cmpR d0 d1 x y = d0 from (if_neg h1).trans (if_pos h2)]
      exact TR_stop (TR_of (TS_for (n := 0) (hi rfl (tv 0 rfl) rfl) (.ret (.some _ _ _) (.t (.cons (i := 3) rfl rfl (.cons (i := 4) rfl rfl (.nil _))))
        (TS_cons (TS_asg (i := 5) (TE_idx (tv 1 rfl) (tv 3 rfl) idx_t0) rfl rfl rfl) (TS_cons (TS_asg (i := 6) (TE_idx (tv 2 rfl) (tv 3 rfl) idx_t0) rfl rfl rfl)
          (TS_cons (TS_if_f (TB.to (TB_cmp (tv 5 rfl) (tv 6 rfl) cmp_lt rfl) (decide_eq_false h1)) TS_nil)
          (TS_stop (TS_if_t (TB.to (TB_cmp (tv 5 rfl) (tv 6 rfl) cmp_gt rfl) (decide_eq_true h2)) (TS_stop (TS_ret (tv 4 rfl)) (fun q => nomatch q))) (fun q => nomatch q))))))))
    rw [show cmpR d0 d1 x y = if x.2.cps.toList < y.2.cps.toList then -d1 else if y.2.cps.toList < x.2.cps.toList then d1 else 0 from (if_neg h1).trans (if_neg h2)]
    by_cases h3 : x.2.cps.toList < y.2.cps.toList
    · rw [if_pos h3]
      exact TR_stop (TR_of (TS_for (n := 1) (hi rfl (tv 0 rfl) rfl) (.next (.some _ _ _) (.t (.cons (i := 3) rfl rfl (.cons (i := 4) rfl rfl (.nil _))))
        (TS_cons (TS_asg (i := 5) (TE_idx (tv 1 rfl) (tv 3 rfl) idx_t0) rfl rfl rfl) (TS_cons (TS_asg (i := 6) (TE_idx (tv 2 rfl) (tv 3 rfl) idx_t0) rfl rfl rfl)
          (TS_cons (TS_if_f (TB.to (TB_cmp (tv 5 rfl) (tv 6 rfl) cmp_lt rfl) (decide_eq_false h1)) TS_nil) (TS_cons (TS_if_f (TB.to (TB_cmp (tv 5 rfl) (tv 6 rfl) cmp_gt rfl) (decide_eq_false h2)) TS_nil) TS_nil))))
        (.ret (.some _ _ _) (.t (.cons (i := 3) rfl rfl (.cons (i := 4) rfl rfl (.nil _))))
        (TS_cons (TS_asg (i := 5) (TE_idx (tv 1 rfl) (tv 3 rfl) idx_t1) rfl rfl rfl) (TS_cons (TS_asg (i := 6) (TE_idx (tv 2 rfl) (tv 3 rfl) idx_t1) rfl rfl rfl)
          (TS_stop (TS_if_t (TB.to (TB_cmp (tv 5 rfl) (tv 6 rfl) cmp_lts rfl) (decide_eq_true h3)) (TS_stop (TS_ret (TE_neg (tv 4 rfl))) (fun q => nomatch q))) (fun q => nomatch q))))))))
    rw [if_neg h3]
    by_cases h4 : y.2.cps.toList < x.2.cps.toList
    · rw [if_pos h4]
      exact TR_stop (TR_of (TS_for (n := 1) (hi rfl (tv 0 rfl) rfl) (.next (.some _ _ _) (.t (.cons (i := 3) rfl rfl (.cons (i := 4) rfl rfl (.nil _))))
        (TS_cons (TS_asg (i := 5) (TE_idx (tv 1 rfl) (tv 3 rfl) idx_t0) rfl rfl rfl) (TS_cons (TS_asg (i := 6) (TE_idx (tv 2 rfl) (tv 3 rfl) idx_t0) rfl rfl rfl)
          (TS_cons (TS_if_f (TB.to (TB_cmp (tv 5 rfl) (tv 6 rfl) cmp_lt rfl) (decide_eq_false h1)) TS_nil) (TS_cons (TS_if_f (TB.to (TB_cmp (tv 5 rfl) (tv 6 rfl) cmp_gt rfl) (decide_eq_false h2)) TS_nil) TS_nil))))
        (.ret (.some _ _ _) (.t (.cons (i := 3) rfl rfl (.cons (i := 4) rfl rfl (.nil _))))
        (TS_cons (TS_asg (i := 5) (TE_idx (tv 1 rfl) (tv 3 rfl) idx_t1) rfl rfl rfl) (TS_cons (TS_asg (i := 6) (TE_idx (tv 2 rfl) (tv 3 rfl) idx_t1) rfl rfl rfl)
          (TS_cons (TS_if_f (TB.to (TB_cmp (tv 5 rfl) (tv 6 rfl) cmp_lts rfl) (decide_eq_false h3)) TS_nil)
          (TS_stop (TS_if_t (TB.to (TB_cmp (tv 5 rfl) (tv 6 rfl) cmp_gts rfl) (decide_eq_true h4)) (TS_stop (TS_ret (tv 4 rfl)) (fun q => nomatch q))) (fun q => nomatch q)))))))))
    rw [if_neg h4]
    exact TR_cons (TS_for (n := 2) (hi rfl (tv 0 rfl) rfl) (.next (.some _ _ _) (.t (.cons (i := 3) rfl rfl (.cons (i := 4) rfl rfl (.nil _))))
        (TS_cons (TS_asg (i := 5) (TE_idx (tv 1 rfl) (tv 3 rfl) idx_t0) rfl rfl rfl) (TS_cons (TS_asg (i := 6) (TE_idx (tv 2 rfl) (tv 3 rfl) idx_t0) rfl rfl rfl)
          (TS_cons (TS_if_f (TB.to (TB_cmp (tv 5 rfl) (tv 6 rfl) cmp_lt rfl) (decide_eq_false h1)) TS_nil) (TS_cons (TS_if_f (TB.to (TB_cmp (tv 5 rfl) (tv 6 rfl) cmp_gt rfl) (decide_eq_false h2)) TS_nil) TS_nil))))
        (.next (.some _ _ _) (.t (.cons (i := 3) rfl rfl (.cons (i := 4) rfl rfl (.nil _))))
        (TS_cons (TS_asg (i := 5) (TE_idx (tv 1 rfl) (tv 3 rfl) idx_t1) rfl rfl rfl) (TS_cons (TS_asg (i := 6) (TE_idx (tv 2 rfl) (tv 3 rfl) idx_t1) rfl rfl rfl)
          (TS_cons (TS_if_f (TB.to (TB_cmp (tv 5 rfl) (tv 6 rfl) cmp_lts rfl) (decide_eq_false h3)) TS_nil) (TS_cons (TS_if_f (TB.to (TB_cmp (tv 5 rfl) (tv 6 rfl) cmp_gts rfl) (decide_eq_false h4)) TS_nil) TS_nil)))) (.done (.none _) TS_nil)))) (TR_stop (TR_ret TE_int))
end
end Mine
end
section
open PySem PySem.W PyProof.Rows
namespace Mine
theorem join_fold (sep : Str) : ∀ (ts : List Str) (a b : Nat), (∀ t ∈ ts, t.length + sep.length ≤ b) → ts.foldl (fun n t => n + t.length + sep.length) a ≤ a + b * ts.length
  | [], a, b, _ => Nat.le_refl _
  | t :: ts, a, b, h => by
    have h1 := h t (.head _)
    have h2 := join_fold sep ts (a + t.length + sep.length) b fun t m => h t (.tail _ m)
    rw [List.length_cons, Nat.mul_succ]
    exact Nat.le_trans h2 (by omega)
theorem join_ok {sep : Str} {ts : List Str} (b : Nat) (h : ∀ t ∈ ts, t.length + sep.length ≤ b) (hb : b * ts.length ≤ 16777216) : JoinOk sep ts = true := by
  unfold JoinOk Builtin.Str.tooLong
  rw [List.foldl_toArray, Bool.not_eq_true', decide_eq_false_iff_not, sizeLine_is]
  exact Nat.not_lt.mpr (Nat.le_trans (join_fold sep ts 0 b h) (by omega))
structure GlbD (C : Cx) (x : Str) (d : D) : Prop where
  at_ : ∃ v, C.mg x = some v ∧ ∀ σ w, Inv C σ w → Rep C w d v
theorem TE_glob {K : Ctx} {ρ : Rho} {σ : St} {x : Str} {d : D} {pos : Pos} (h : GlbD K.C x d) (hk : K.fd.glob x = true := by kernel_rfl) : TE K ρ (eval (.Name x pos) K.env) σ d σ := fun u0 u0 p =>
  let ⟨_, a, b⟩ := h.at_; global_ok p hk a (out_here p.I (b _ _ p.I))
theorem land_nat (a b : Nat) : Builtin.bitAnd (a : Int) (b : Int) = ((a &&& b : Nat) : Int) := by
  unfold Builtin.bitAnd
  rw [decide_eq_true (Int.natCast_nonneg a), decide_eq_true (Int.natCast_nonneg b)]
  rfl
noncomputable def valF (S : List Nat) : Nat := (S.map (2 ^ ·)).sum
theorem valF_mul : ∀ (S : List Nat) (j : Nat), (∀ p ∈ S, j ≤ p) → ∃ q, valF S = 2 ^ j * q
  | [], j, _ => ⟨0, rfl⟩
  | p :: S, j, h => by
    obtain ⟨q, hq⟩ := valF_mul S j fun p m => h p (.tail _ m)
    exact ⟨2 ^ (p - j) + q, by rw [Nat.mul_add, ← Nat.pow_add, Nat.add_sub_cancel' (h p (.head _)), ← hq]; rfl⟩
theorem and_pow (n i : Nat) : n &&& 2 ^ i = if n.testBit i then 2 ^ i else 0 := by
  apply Nat.eq_of_testBit_eq
  intro j
  rw [Nat.testBit_and, Nat.testBit_two_pow]
  by_cases h : i = j
  · subst h
    cases n.testBit i <;> simp
  · cases n.testBit i <;> simp [h]
theorem land_hit {S : List Nat} {i : Nat} (h : ∀ p ∈ S, i < p) : valF (i :: S) &&& 2 ^ i = 2 ^ i := by
  obtain ⟨q, hq⟩ := valF_mul S (i + 1) fun p m => h p m
  rw [show valF (i :: S) = 2 ^ i + valF S from rfl, hq, Nat.add_comm, and_pow, Nat.testBit_two_pow_mul_add _ (Nat.pow_lt_pow_right (by decide) (Nat.lt_succ_self i)), if_pos (Nat.lt_succ_self i), Nat.testBit_two_pow_self]
  rfl
theorem land_miss {S : List Nat} {i : Nat} (h : ∀ p ∈ S, i < p) : valF S &&& 2 ^ i = 0 := by
  obtain ⟨q, hq⟩ := valF_mul S (i + 1) fun p m => h p m
  have := Nat.testBit_two_pow_mul_add q (b := 0) (i := i + 1) (Nat.two_pow_pos _) i
  rw [Nat.add_zero, if_pos (Nat.lt_succ_self i), Nat.zero_testBit] at this
  rw [hq, and_pow, this]; rfl
theorem xor_hit {S : List Nat} {i : Nat} (h : ∀ p ∈ S, i < p) : Builtin.bitXor ((valF (i :: S) : Nat) : Int) ((2 ^ i : Nat) : Int) = ((valF S : Nat) : Int) := by
  rw [bitXor_and, land_nat, land_hit h, show valF (i :: S) = 2 ^ i + valF S from rfl]
  omega
theorem valF_pos {p : Nat} {S : List Nat} : (((valF (p :: S) : Nat) : Int) != 0) = true := bne_iff_ne.mpr fun h => Nat.ne_of_gt (Nat.add_pos_left (Nat.two_pow_pos p) (valF S)) (Int.ofNat.inj h)
noncomputable def flagT : List (Int × Str) := [(1, ⟨#[79, 80, 84, 73, 77, 73, 90, 69, 68]⟩), (2, ⟨#[78, 69, 87, 76, 79, 67, 65, 76, 83]⟩), (4, ⟨#[86, 65, 82, 65, 82, 71, 83]⟩), (8, ⟨#[86, 65, 82, 75, 69, 89, 87, 79, 82, 68, 83]⟩), (16, ⟨#[78, 69, 83, 84, 69, 68]⟩), (32, ⟨#[71, 69, 78, 69, 82, 65, 84, 79, 82]⟩), (64, ⟨#[78, 79, 70, 82, 69, 69]⟩), (128, ⟨#[67, 79, 82, 79, 85, 84, 73, 78, 69]⟩), (256, ⟨#[73, 84, 69, 82, 65, 66, 76, 69, 95, 67, 79, 82, 79, 85, 84, 73, 78, 69]⟩), (512, ⟨#[65, 83, 89, 78, 67, 95, 71, 69, 78, 69, 82, 65, 84, 79, 82]⟩)]
noncomputable def nmF (p : Nat) : Str := (aget flagT ((2 ^ p : Nat) : Int)).getD (baseText "0x" 16 ((2 ^ p : Nat) : Int))
theorem nmF_len : ∀ p < 33, (nmF p).length ≤ 20 := by decide +kernel
theorem hex_len : ∀ p < 33, (baseText "0x" 16 ((2 ^ p : Nat) : Int)).length ≤ 20 := by decide +kernel
theorem valF_32 : D.int ((valF [32] : Nat) : Int) = .int ((2 ^ 32 : Nat) : Int) := by rw [show valF [32] = 2 ^ 32 from rfl]
theorem nmF_32 : nmF 32 = baseText "0x" 16 ((2 ^ 32 : Nat) : Int) := by decide +kernel
noncomputable def sComma : Str := ⟨#[44, 32]⟩
noncomputable def fd7 : Fd := ⟨(pT 2).scope, ["flags", "names", "i", "flag"], [0, 1, 2, 3], []⟩
theorem fd7_ok : fnB fd7 (pT 2).params [] = true := by kernel_rfl
theorem shl_nat (i : Nat) : D.int (1 * 2 ^ (i : Int).toNat) = .int ((2 ^ i : Nat) : Int) := by
  rw [Int.toNat_natCast, Int.one_mul, Int.natCast_pow]; rfl
theorem flag_get (i : Nat) : (kget (mapD D.str flagT) ((2 ^ i : Nat) : Int)).getD (.str (baseText "0x" 16 ((2 ^ i : Nat) : Int))) = .str (nmF i) := by
  rw [kget_map]
  show _ = D.str ((aget flagT _).getD _)
  cases aget flagT ((2 ^ i : Nat) : Int) <;> rfl
structure PF (i : Nat) (S : List Nat) (acc : List Str) : Prop where
  hi : i ≤ 32
  hS : ∀ p ∈ S, i ≤ p ∧ p < 33
  hp : S.Pairwise (· < ·)
  ne : S ≠ []
  hl : acc.length + S.length ≤ 100
structure PFS where
  i : Nat
  S : List Nat
  acc : List Str
theorem PF.last {S : List Nat} {acc : List Str} (h : PF 32 S acc) : S = [32] := by
  obtain ⟨u1, hS, hp, ne, u2⟩ := h
  match S with
  | [] => exact absurd rfl ne
  | [p] => have := hS p (.head _); rw [Nat.le_antisymm (Nat.le_of_lt_succ this.2) this.1]
  | p :: q :: S =>
    exact absurd (Nat.lt_of_lt_of_le ((List.pairwise_cons.mp hp).1 q (.head _)) (Nat.le_of_lt_succ (hS q (.tail _ (.head _))).2)) (Nat.not_lt.mpr (hS p (.head _)).1)
theorem PF.hit {i q : Nat} {S : List Nat} {acc : List Str} {t : Str} (h : PF i (i :: q :: S) acc) (hi : i < 32) : PF (i + 1) (q :: S) (acc ++ [t]) :=
  let hp := List.pairwise_cons.mp h.hp
  ⟨hi, fun z m => ⟨hp.1 z m, (h.hS z (.tail _ m)).2⟩, hp.2, List.cons_ne_nil _ _, by rw [List.length_append]; exact Nat.le_trans (Nat.le_of_eq ((Nat.add_assoc acc.length 1 _).trans (congrArg (acc.length + ·) (Nat.add_comm 1 _)))) h.hl⟩
theorem PF.over {i p : Nat} {S : List Nat} {acc : List Str} (h : PF i (p :: S) acc) (ne : p ≠ i) : ∀ z ∈ p :: S, i < z := fun z m =>
  have hl := Nat.lt_of_le_of_ne (h.hS p (.head _)).1 (Ne.symm ne)
  (List.mem_cons.mp m).elim (fun e => e ▸ hl) fun m => Nat.lt_trans hl ((List.pairwise_cons.mp h.hp).1 z m)
theorem PF.miss {i p : Nat} {S : List Nat} {acc : List Str} (h : PF i (p :: S) acc) (ne : p ≠ i) (hi : i < 32) : PF (i + 1) (p :: S) acc :=
  ⟨hi, fun z m => ⟨h.over ne z m, (h.hS z m).2⟩, h.hp, h.ne, h.hl⟩
theorem TS.to {K : Ctx} {ρ ρ' ρ₂ : Rho} {σ σ' σ₂ : St} {fl : Fl} {t : Sem Flow} (h : TS K ρ t σ fl ρ' σ') (e : ρ' = ρ₂ ∧ σ' = σ₂) : TS K ρ t σ fl ρ₂ σ₂ := e.1 ▸ e.2 ▸ h
theorem TS_ex {K : Ctx} {ρ : Rho} {σ σ' : St} {e : Expr} {d : D} {pos : Pos} (h : TE K ρ (eval e K.env) σ d σ') (hs : swapsWith e none pos.line K.env = pure false := by rfl) : TS K ρ (exec (.Expr e pos) K.env) σ .next ρ σ' := fun u0 u0 p =>
  TS_expr h (by unfold interactive; rw [p.o.kind]; rfl) hs p
theorem range'_pop {i : Nat} (h : i < 32) : (List.range' i (32 - i)).map (fun (n : Nat) => D.int n) = .int (i : Nat) :: (List.range' (i + 1) (32 - (i + 1))).map fun (n : Nat) => D.int n := by
  rw [show 32 - i = 32 - (i + 1) + 1 from (Nat.succ_pred (Nat.sub_ne_zero_of_lt h)).symm, List.range'_succ]; rfl
theorem pretty_body {C : Cx} {k : Nat} {c : Addr} {σ : St} (G : Names C) (Gf : GlbD C "COMPILER_FLAG_NAMES" (.di (mapD .str flagT))) (S : List Nat) (hS : ∀ p ∈ S, p < 33) (hp : S.Pairwise (· < ·)) (hne : S ≠ []) (hl : S.length ≤ 90) :
    Body C k fd7 c (pT 2).body [some (.int (valF S : Nat)), none, none, none] σ (.str (Txt.join sComma (S.map nmF))) (σ ++ [.dead]) := .ret fun A env hc => by
  refine TR_cons (TS_asg (i := 1) ((TP_list an (Nat.zero_le _)).loc made_L) rfl rfl rfl) ?_
  refine TR_cons (TS_for (TI_range1 G.range (by kernel_rfl) rfl (a1 TE_int) (Nat.le_of_ble_eq_true rfl)) (Run.wf (P := fun b : PFS => PF b.i b.S b.acc) (m := fun b => 32 - b.i) (i := fun b => (List.range' b.i (32 - b.i)).map fun (n : Nat) => D.int n) (R := fun b => [some (.int (valF b.S : Nat)), some (.loc σ.length), none, none])
    (S := fun b => σ ++ [.lst (b.acc.map .str)]) (F := fun b => ⟨.next, [none, some (.loc σ.length), none, none], σ ++ [.lst ((b.acc ++ b.S.map nmF).map .str)]⟩) (fun b h => ?_) 32 ⟨0, S, []⟩ ⟨Nat.zero_le _, fun p m => ⟨Nat.zero_le _, hS p m⟩, hp, hne, Nat.le_trans (Nat.le_of_eq (Nat.zero_add _)) (Nat.le_trans hl (by decide))⟩ (Nat.le_refl _))) ?_
  · obtain ⟨i, S, acc⟩ := b
    have hz : acc.length ≤ 16777216 := Nat.le_trans (Nat.le_add_right _ _) (Nat.le_trans h.hl (by decide))
    have ha : (acc.map D.str).length ≤ 16777216 := by rw [List.length_map]; exact hz
    by_cases hi : i < 32
    · have hr := range'_pop hi
      have hin : Nl ((List.range' i (32 - i)).map fun (n : Nat) => D.int n) (σ ++ [.lst (acc.map .str)]) (some (.int (i : Nat))) ((List.range' (i + 1) (32 - (i + 1))).map fun (n : Nat) => D.int n) (σ ++ [.lst (acc.map .str)]) := by rw [hr]; exact .some _ _ _
      have hb : (1 : Int).natAbs < 2 ^ 63 := by decide
      have hi3 : (i : Int) ≤ 1000 := Int.ofNat_le.mpr (Nat.le_trans (Nat.le_of_lt hi) (by decide))
      have hx : (baseText "0x" 16 ((2 ^ i : Nat) : Int)).length ≤ 16777216 := Nat.le_trans (hex_len i (Nat.lt_succ_of_lt hi)) (Nat.le_of_ble_eq_true rfl)
      cases S with
      | nil => exact absurd rfl h.ne
      | cons p S =>
        by_cases e : p = i
        · subst e
          have h1 := (List.pairwise_cons.mp h.hp).1
          have hand : (Builtin.bitAnd ((valF (p :: S) : Nat) : Int) ((2 ^ p : Nat) : Int) != 0) = true := by
            rw [land_nat, land_hit h1]; exact bne_iff_ne.mpr fun q => Nat.ne_of_gt (Nat.two_pow_pos p) (Int.ofNat.inj q)
          have hm : (acc.map D.str) ++ [.str (nmF p)] = (acc ++ [nmF p]).map .str := by rw [List.map_append]; rfl
          cases S with
          | nil =>
            exact .brk _ _ _ _ rfl hin (.v (i := 2) rfl rfl) ((TS.fgt [0, 2, 3]
              (TS_cons (TS_asg (i := 3) ((TE_bin TE_int (tv 2 rfl) (bin_shl hb (Int.natCast_nonneg _) hi3)).val (shl_nat p)) rfl rfl rfl)
              (TS_stop (TS_if_t (TB.to (TB_value (TE_bin (tv 0 rfl) (tv 3 rfl) bin_and) truth_int) hand)
                (TS_cons (TS_ex (TE_append at_len at_len ha (tv 1 rfl) (a1 ((TE_getI (.z _) (.z _) (TE_glob Gf) (a2 (tv 3 rfl) (TE_bi G.hex (by kernel_rfl) rfl rfl (a1 (tv 3 rfl)) fun q => bi_hex hx q.I))).val (flag_get p)))))
                (TS_cons (TS_aug (i := 0) (by kernel_rfl) rfl (tv 3 rfl) ibin_xor rfl)
                (TS_stop (TS_if_t (TB_not (q := false) (TB.to (TB_value (tv 0 rfl) truth_int) (by rw [xor_hit h1]; rfl))) (TS_stop TS_brk (fun q => nomatch q))) (fun q => nomatch q))))) (fun q => nomatch q)))).to ⟨rfl, by rw [set_len, hm]; rfl⟩)
          | cons q S =>
            refine .next ⟨p + 1, q :: S, acc ++ [nmF p]⟩ _ _ _ (h.hit hi) (Nat.sub_lt_sub_left hi (Nat.lt_succ_self p)) (by show End.mk _ _ _ = End.mk _ _ _; rw [List.map_cons, List.append_assoc]; rfl) hin (.v (i := 2) rfl rfl) .next (.inl rfl) ?_
            exact (TS.fgt [2, 3]
              (TS_cons (TS_asg (i := 3) ((TE_bin TE_int (tv 2 rfl) (bin_shl hb (Int.natCast_nonneg _) hi3)).val (shl_nat p)) rfl rfl rfl)
              (TS_cons (TS_if_t (TB.to (TB_value (TE_bin (tv 0 rfl) (tv 3 rfl) bin_and) truth_int) hand)
                (TS_cons (TS_ex (TE_append at_len at_len ha (tv 1 rfl) (a1 ((TE_getI (.z _) (.z _) (TE_glob Gf) (a2 (tv 3 rfl) (TE_bi G.hex (by kernel_rfl) rfl rfl (a1 (tv 3 rfl)) fun q => bi_hex hx q.I))).val (flag_get p)))))
                (TS_cons (TS_aug (i := 0) (by kernel_rfl) rfl (tv 3 rfl) ibin_xor rfl)
                (TS_cons (TS_if_f (TB_not (q := true) (TB.to (TB_value (tv 0 rfl) truth_int) (by rw [xor_hit h1]; exact valF_pos))) TS_nil) TS_nil)))) TS_nil))).to ⟨by rw [xor_hit h1]; rfl, by rw [set_len, hm]⟩
        · have h0 := land_miss (h.over e)
          exact .next ⟨i + 1, p :: S, acc⟩ _ _ _ (h.miss e hi) (Nat.sub_lt_sub_left hi (Nat.lt_succ_self i)) rfl hin (.v (i := 2) rfl rfl) .next (.inl rfl) (TS.fgt [2, 3]
              (TS_cons (TS_asg (i := 3) ((TE_bin TE_int (tv 2 rfl) (bin_shl hb (Int.natCast_nonneg _) hi3)).val (shl_nat i)) rfl rfl rfl)
              (TS_cons (TS_if_f (TB.to (TB_value (TE_bin (tv 0 rfl) (tv 3 rfl) bin_and) truth_int) (by rw [land_nat, h0]; rfl)) TS_nil) TS_nil)))
    · cases show i = 32 from Nat.le_antisymm h.hi (Nat.le_of_not_lt hi)
      cases h.last
      exact .done _ _ (.none _) (TS.fgt [0] (TS_cons (TS_ex (TE_append at_len at_len ha (tv 1 rfl) (a1 (TE_bi G.hex (by kernel_rfl) rfl rfl (a1 ((tv 0 rfl).val valF_32)) fun q => bi_hex (Nat.le_trans (hex_len 32 (by decide)) (Nat.le_of_ble_eq_true rfl)) q.I)))) TS_nil)
        |>.to ⟨rfl, by rw [set_len, List.map_append, List.map_singleton, List.map_singleton, nmF_32]⟩)
  · exact TR_stop (TR_ret ((TE_join (ss := S.map nmF) (join_ok 22 (fun t m => by obtain ⟨p, q, rfl⟩ := List.mem_map.mp m; exact Nat.add_le_add_right (nmF_len p (hS p q)) 2) (by rw [List.length_map]; exact Nat.le_trans (Nat.mul_le_mul_left 22 hl) (by decide))) TE_str (.z _) (a1 (TE_frz (tv 1 rfl) at_len (.lst _)))).st set_len))
theorem pretty_fn {C : Cx} {fa : Addr} {σ : St} (G : Names C) (Gf : GlbD C "COMPILER_FLAG_NAMES" (.di (mapD .str flagT))) (F : Fn C "pretty_flags" (pT 2).params (pT 2).scope (pT 2).body fa) (S : List Nat) (hS : ∀ p ∈ S, p < 33) (hp : S.Pairwise (· < ·)) (hne : S ≠ []) (hl : S.length ≤ 90) :
    FnTo C 1 fa [.int (valF S : Nat)] σ (.str (Txt.join sComma (S.map nmF))) (σ ++ [.dead]) :=
  fn_to (f := fd7) F G.lim fd7_ok (.cons 0 rfl rfl .nil) fun c u0 => pretty_body G Gf S hS hp hne hl
end Mine
end
section
open PySem PySem.W PyProof.Rows
namespace Mine
noncomputable def obt (q : Nat × Nat) (b : Nat) : Nat := q.1 + 64 * b + 128 * q.2
noncomputable def okO (q : Nat × Nat) : Prop := q.1 < 64 ∧ q.2 < 2
theorem and63 {q : Nat × Nat} {p : Nat} (h : okO q) (hp : p < 2) : Builtin.bitAnd ((obt q p : Nat) : Int) 63 = ((q.1 : Nat) : Int) :=
  (by decide +kernel : ∀ q < 2, ∀ p < 2, ∀ v < 64, Builtin.bitAnd ((v + 64 * p + 128 * q : Nat) : Int) 63 = (v : Int)) q.2 h.2 p hp q.1 h.1
theorem and64 {q : Nat × Nat} {p : Nat} (h : okO q) (hp : p < 2) : Builtin.bitAnd ((obt q p : Nat) : Int) 64 = ((64 * p : Nat) : Int) :=
  (by decide +kernel : ∀ q < 2, ∀ p < 2, ∀ v < 64, Builtin.bitAnd ((v + 64 * p + 128 * q : Nat) : Int) 64 = ((64 * p : Nat) : Int)) q.2 h.2 p hp q.1 h.1
theorem and_low {u v : Nat} (hv : v < 64) : u * 64 &&& v = 0 := by
  rw [← Nat.and_two_pow_sub_one_of_lt_two_pow (n := 6) hv, Nat.and_comm v, ← Nat.and_assoc, Nat.and_two_pow_sub_one_eq_mod, show u * 64 % 2 ^ 6 = 0 from Nat.mul_mod_left u 64]
  exact Nat.zero_and v
theorem or64 {u v : Nat} (hv : v < 64) : Builtin.bitOr ((u : Int) * 2 ^ (6 : Int).toNat) (v : Int) = ((u * 64 + v : Nat) : Int) := by
  rw [show (u : Int) * 2 ^ (6 : Int).toNat = ((u * 64 : Nat) : Int) from rfl, bitOr_and, land_nat, and_low hv]
  exact Int.sub_zero _
noncomputable def mkO : List (Nat × Nat) → Nat
  | [] => 0
  | _ :: _ => 1
noncomputable def encO : List (Nat × Nat) → List Nat
  | [] => []
  | p :: r => obt p (mkO r) :: encO r
theorem mkO_lt : ∀ r, mkO r < 2
  | [] => Nat.zero_lt_two
  | _ :: _ => Nat.one_lt_two
noncomputable def valO (r : List (Nat × Nat)) (u : Nat) : Nat := r.foldl (fun u p => u * 64 + p.1) u
theorem valO_le : ∀ (r : List (Nat × Nat)) (u : Nat), u ≤ valO r u
  | [], u => Nat.le_refl _
  | p :: r, u => Nat.le_trans (by omega) (valO_le r (u * 64 + p.1))
noncomputable def natD (l : List Nat) : List D := l.map fun n => .int (n : Nat)
noncomputable def fd8 : Fd := ⟨(pT 3).scope, ["iterator", "b", "val"], [0, 1, 2], []⟩
theorem fd8_ok : fnB fd8 (pT 3).params [] = true := by kernel_rfl
theorem TE_next1 {K : Ctx} {ρ : Rho} {σ σ₁ : St} {n : Nat} {d : D} {l : List D} {e : Expr} {p pos : Pos} (G : Names K.C) (he : TE K ρ (eval e K.env) σ (.loc n) σ₁) (hn : σ₁[n]? = some (.it (d :: l))) (hk : K.fd.glob "next" = true := by kernel_rfl) (hu : unstarred [e] = true := by rfl) : TE K ρ (eval (.Call (.Name "next" p) [e] [] pos) K.env) σ d (σ₁.set n (.it l)) :=
  TE_bi G.next hk rfl hu (a1 he hu) fun q r => bi_next1 hn q.I r
structure VI where
  q : Nat × Nat
  r : List (Nat × Nat)
  u : Nat
noncomputable def lastO (q : Nat × Nat) : List (Nat × Nat) → Nat × Nat
  | [] => q
  | p :: r => lastO p r
theorem get_set {α : Type} {l : List α} {n : Nat} {a b : α} (h : l[n]? = some a) : (l.set n b)[n]? = some b := List.getElem?_set_self (List.getElem?_eq_some_iff.mp h).1
theorem shl6 {u : Nat} (h : u < 2 ^ 40) : (u : Int).natAbs < 2 ^ 63 := Nat.lt_trans (show (u : Int).natAbs < 2 ^ 40 from h) (by decide)
theorem parse_body {C : Cx} {k c m v : Nat} {ca : Addr} {σ : St} {p : Nat × Nat} {r : List (Nat × Nat)} {rest : List D} (G : Names C) (hc : v < 2 ^ 40) (hv : valO r p.1 = v) (hq : ∀ q ∈ p :: r, okO q) (hm : σ[m]? = some (.it (natD (encO (p :: r)) ++ rest))) :
    Body C k fd8 ca (pT 3).body [some (.loc m), none, none] σ (.int (v : Nat)) (σ.set m (.it rest)) := .ret fun A env hc' => by
  refine TR_cons (TS_asg (i := 1) (TE_next1 G (tv 0 rfl) hm) rfl rfl rfl) ?_
  refine TR_cons (TS_asg (i := 2) ((TE_bin (tv 1 rfl) TE_int bin_and).val (congrArg D.int (and63 (hq p (.head _)) (mkO_lt r)))) rfl rfl rfl) ?_
  refine TR_cons (TS_while (WRun.wf (P := fun b : VI => (∀ z ∈ b.q :: b.r, okO z) ∧ valO b.r b.u = v) (m := fun b => b.r.length) (R := fun b => [some (.loc m), some (.int (obt b.q (mkO b.r) : Nat)), some (.int (b.u : Nat))])
    (S := fun b => σ.set m (.it (natD (encO b.r) ++ rest))) (F := fun b => ([some (.loc m), some (.int (obt (lastO b.q b.r) 0 : Nat)), some (.int (v : Nat))], σ.set m (.it rest))) (fun b h => ?_) r.length ⟨p, r, p.1⟩ ⟨hq, hv⟩ (Nat.le_refl _))) (TR_stop (TR_ret (tv 2 rfl)))
  obtain ⟨q, r, u⟩ := b
  obtain ⟨h1, h2⟩ := h
  have h3 := h1 q (.head _)
  cases r with
  | nil => cases h2; exact .done rfl (TB.to (TB_value (TE_bin (tv 1 rfl) TE_int bin_and) truth_int) ((congrArg (· != 0) (and64 h3 Nat.zero_lt_two)).trans rfl))
  | cons z r =>
    have hu : u < 2 ^ 40 := Nat.lt_of_le_of_lt (Nat.le_trans (Nat.le_trans (Nat.le_mul_of_pos_right u (by decide)) (Nat.le_add_right _ z.1)) (h2 ▸ valO_le r (u * 64 + z.1))) hc
    have hz := h1 z (.tail _ (.head _))
    exact .next ⟨z, r, u * 64 + z.1⟩ _ ⟨fun y m => h1 y (.tail _ m), h2⟩ (Nat.lt_succ_self _) rfl (TB.to (TB_value (TE_bin (tv 1 rfl) TE_int bin_and) truth_int) ((congrArg (· != 0) (and64 h3 Nat.one_lt_two)).trans rfl))
      ((TS_cons (TS_aug (i := 2) (by kernel_rfl) rfl TE_int (ibin_shl (shl6 hu) (by decide) (by decide)) rfl) (TS_cons (TS_asg (i := 1) (TE_next1 G (tv 0 rfl) (get_set hm)) rfl rfl rfl)
        (TS_cons (TS_aug (i := 2) (by kernel_rfl) rfl ((TE_bin (tv 1 rfl) TE_int bin_and).val (congrArg D.int (and63 hz (mkO_lt r)))) ibin_or rfl) TS_nil))).to ⟨by rw [or64 hz.1]; rfl, List.set_set ..⟩)
theorem parse_fn {C : Cx} {m v : Nat} {fa : Addr} {σ : St} {p : Nat × Nat} {r : List (Nat × Nat)} {rest : List D} (G : Names C) (F : Fn C "_parse_varint" (pT 3).params (pT 3).scope (pT 3).body fa) (hc : v < 2 ^ 40) (hv : valO r p.1 = v) (hq : ∀ q ∈ p :: r, okO q) (hm : σ[m]? = some (.it (natD (encO (p :: r)) ++ rest))) :
    FnTo C 1 fa [.loc m] σ (.int (v : Nat)) (σ.set m (.it rest)) := fn_to (f := fd8) F G.lim fd8_ok (.cons 0 rfl rfl .nil) fun c u0 => parse_body (c := 0) G hc hv hq hm
end Mine
end
section
open PySem PySem.W PyProof.Rows
namespace Mine
section
variable {K : Ctx} {ρ : Rho} {σ σ₁ : St} {scope : Scope} {own : List Nat} {α : Type} {ds : List D} {target iter elt kx vx : Expr} {ifs : List Expr} {pos : Pos}
inductive CT (K : Ctx) (ρ : Rho) (σ : St) (target elt : Expr) (d v : D) : Prop
  | mk {ρ₁ : Rho} (a : Asg K target d ρ ρ₁) (l : Le ρ ρ₁) (e : TE K ρ₁ (eval elt K.env) σ v σ)
inductive CF (K : Ctx) (ρ : Rho) (σ : St) (target elt : Expr) (ifs : List Expr) (d v : D) (q : Bool) : Prop
  | mk {ρ₁ : Rho} (a : Asg K target d ρ ρ₁) (l : Le ρ ρ₁) (t : TB K ρ₁ (testsOf ifs K.env) σ q σ) (e : q = true → TE K ρ₁ (eval elt K.env) σ v σ)
theorem TP_lm (own : List Nat) (e f : α → D) (xs : List α) (hi : TI K ρ iter target σ ds σ₁) (hd : ds = xs.map e) (hz : xs.length ≤ 16777216) (H : ∀ cenv, ∀ x ∈ xs, CT (K.sub scope own cenv) (blank own 0 ρ) σ₁ target elt (e x) (f x)) (h : compB K.fd scope own = true := by kernel_rfl) (hs : ∀ x, foldedSetIterable iter K.env x = pure x := by exact fun u0 => rfl) :
    TP K ρ (eval (.ListComp elt [⟨target, iter, [], 0⟩] scope pos) K.env) σ (fun a => GL K.C a (xs.map f)) σ₁ :=
  TP_lc (comp_l h) hi (fun a cenv ha => hd ▸ CRun.map ha e f xs hz fun x m => let ⟨a, l, t⟩ := H cenv x m; ⟨_, a, l, t⟩) hs
theorem TP_lf (own : List Nat) (e f : α → D) (p : α → Bool) (xs : List α) (hi : TI K ρ iter target σ ds σ₁) (hd : ds = xs.map e) (hz : xs.length ≤ 16777216) (H : ∀ cenv, ∀ x ∈ xs, CF (K.sub scope own cenv) (blank own 0 ρ) σ₁ target elt ifs (e x) (f x) (p x)) (h : compB K.fd scope own = true := by kernel_rfl) (hs : ∀ x, foldedSetIterable iter K.env x = pure x := by exact fun u0 => rfl) :
    TP K ρ (eval (.ListComp elt [⟨target, iter, ifs, 0⟩] scope pos) K.env) σ (fun a => GL K.C a ((xs.filter p).map f)) σ₁ :=
  TP_lc (comp_l h) hi (fun a cenv ha => hd ▸ CRun.list ha e f p xs [] (by rw [List.length_nil, Nat.zero_add]; exact hz) fun x m => let ⟨a, l, t, u⟩ := H cenv x m; ⟨_, a, l, t, u⟩) hs
theorem TE_ite {K : Ctx} {ρ : Rho} {σ σ₁ σ₂ : St} {d : D} {t y z : Expr} {pos : Pos} {q : Bool} (ht : TB K ρ (isTrue t K.env (eval t K.env)) σ q σ₁) (h1 : q = true → TE K ρ (eval y K.env) σ₁ d σ₂) (h2 : q = false → TE K ρ (eval z K.env) σ₁ d σ₂) : TE K ρ (eval (.IfExp t y z pos) K.env) σ d σ₂ := by
  cases q with
  | true => exact TE_ite_t ht (h1 rfl)
  | false => exact TE_ite_f ht (h2 rfl)
end
theorem fdiv_nat (a b : Nat) : Int.fdiv (a : Int) (b : Int) = ((a / b : Nat) : Int) := (Int.ofNat_fdiv a b).symm
theorem fmod_nat (a b : Nat) : Int.fmod (a : Int) (b : Int) = ((a % b : Nat) : Int) := (Int.ofNat_fmod a b).symm
section
variable {K : Ctx} {ρ ρ' : Rho} {σ σ₁ σ' : St} {scope : Scope} {α : Type} {ds : List D} {target iter elt kx vx : Expr} {ifs : List Expr} {pos py spos : Pos} {y : Str} {w : W}
theorem TS_lm (i : Nat) (own : List Nat) (e f : α → D) (xs : List α) (hi : TI K ρ iter target σ ds σ₁) (hd : ds = xs.map e) (hz : xs.length ≤ 16777216) (H : ∀ cenv, ∀ x ∈ xs, CT (K.sub scope own cenv) (blank own 0 ρ) σ₁ target elt (e x) (f x)) (hy : K.ns[i]? = some y) (hm : K.may ρ i = true) (h : compB K.fd scope own = true := by kernel_rfl) (hw : swB K.fd.scope scope y py.line pos.line = true := by kernel_rfl) (hs : ∀ x, foldedSetIterable iter K.env x = pure x := by exact fun u0 => rfl) :
    TS K ρ (exec (.Assign [.Name y py] (.ListComp elt [⟨target, iter, [], 0⟩] scope pos) spos) K.env) σ .next (ρ.set i (some (.lst (xs.map f)))) σ₁ :=
  TS_lc (comp_l h) hi (fun a cenv ha => hd ▸ CRun.map ha e f xs hz fun x m => let ⟨a, l, t⟩ := H cenv x m; ⟨_, a, l, t⟩) hw hy hm (fun a w w' x I n q => cnv_rest made_L x I n q) hs
theorem TS_asgs {i m : Nat} {e : Expr} {d : D} (h : TE K ρ (eval e K.env) σ d σ') (hi : K.ns[i]? = some y) (hm : K.may ρ i = true) (scope : Scope) (hw : swB K.fd.scope scope y py.line m = false := by kernel_rfl) (he : swapsWith e (some (.Name y py)) spos.line K.env = pure (K.env.blockKind == .function && K.env.kindOf y == some .local && py.line == m && !(scope.names.any fun (n, k) => n == y && (k == .local || k == .cell))) := by rfl) :
    TS K ρ (exec (.Assign [.Name y py] e spos) K.env) σ .next (ρ.set i (some d)) σ' := fun u0 u0 p => TS_asg h hi hm (swaps p.o he hw) p
inductive CD (K : Ctx) (ρ : Rho) (σ : St) (target kx vx : Expr) (ifs : List Expr) (d : D) (k : Str) (v : D) (q : Bool) : Prop
  | mk {ρ₁ : Rho} (a : Asg K target d ρ ρ₁) (l : Le ρ ρ₁) (t : TB K ρ₁ (testsOf ifs K.env) σ q σ) (e : q = true → TE K ρ₁ (eval kx K.env) σ (.str k) σ ∧ TE K ρ₁ (eval vx K.env) σ v σ)
theorem TP_df (own : List Nat) (e f : α → D) (k : α → Str) (p : α → Bool) (xs : List α) (hi : TI K ρ iter target σ ds σ₁) (hd : ds = xs.map e) (hz : xs.length ≤ 16777216) (hn : ((xs.filter p).map k).Nodup) (H : ∀ cenv, ∀ x ∈ xs, CD (K.sub scope own cenv) (blank own 0 ρ) σ₁ target kx vx ifs (e x) (k x) (f x) (p x)) (h : compB K.fd scope own = true := by kernel_rfl) (hs : ∀ x, foldedSetIterable iter K.env x = pure x := by exact fun u0 => rfl) :
    TP K ρ (eval (.DictComp kx vx [⟨target, iter, ifs, 0⟩] scope pos) K.env) σ (fun a => GD K.C a ((xs.filter p).map fun x => (k x, f x))) σ₁ :=
  TP_dc (comp_d h) hi (fun a cenv ha => hd ▸ CRun.dict ha e f k p xs [] (by rw [List.length_nil, Nat.zero_add]; exact hz) hn fun x m => let ⟨a, l, t, u⟩ := H cenv x m; ⟨_, a, l, t, u⟩) hs
theorem EnvOk.put {i : Nat} {d d' : D} (hr : ρ[i]? = some (some d)) (V : EnvOk K w ρ) (hv : ∀ v, Rep K.C w d v → Rep K.C w d' v) : EnvOk K w (ρ.set i (some d')) := by
  have hl := (List.getElem?_eq_some_iff.mp hr).1
  have tg : ∀ j, K.tagOf (ρ.set i (some d')) j = K.tagOf ρ j := fun j => by
    unfold Ctx.tagOf
    by_cases q : i = j
    · subst q; rw [List.getElem?_set_self hl, hr]
    · rw [List.getElem?_set_ne q]
  have get : ∀ {j : Nat} {e : D} {v : Value}, (ρ.set i (some d'))[j]? = some (some e) → (∀ e', ρ[j]? = some (some e') → Rep K.C w e' v) → Rep K.C w e v := fun {j e v} h a => by
    by_cases q : i = j
    · subst q; cases (List.getElem?_set_self hl).symm.trans h; exact hv v (a _ hr)
    · exact a e ((List.getElem?_set_ne q).symm.trans h)
  have old : ∀ {j : Nat} {e : D}, (ρ.set i (some d'))[j]? = some (some e) → ∃ e', ρ[j]? = some (some e') := fun {j e} h => by
    by_cases q : i = j
    · subst q; exact ⟨_, hr⟩
    · exact ⟨e, (List.getElem?_set_ne q).symm.trans h⟩
  refine ⟨let ⟨o, es, ep, z, e, sk, val⟩ := V.loc; ⟨o, es, ep, z, e, sk, fun j y e a b c => ?_⟩, fun y c a => let ⟨o, ov, t, z, e, ne, ht, val, own⟩ := V.cel y c a; ⟨o, ov, t, z, e, ne, ht, fun j e a b c => ?_, fun i a b c => (own i a b c).trans (tg i).symm⟩, V.ids⟩
  · obtain ⟨e', q⟩ := old c
    obtain ⟨v, n, u1⟩ := val j y e' a b q
    refine ⟨v, n, get c fun e'' q' => ?_⟩
    obtain ⟨v', n', r⟩ := val j y e'' a b q'
    cases n.symm.trans n'; exact r
  · obtain ⟨e', q⟩ := old c
    obtain ⟨v, n, u1⟩ := val j e' a b q
    refine ⟨v, n, get c fun e'' q' => ?_⟩
    obtain ⟨v', n', r⟩ := val j e'' a b q'
    cases n.symm.trans n'; exact r
inductive FrzTo (K : Ctx) (w : W) (ρ : Rho) (σ : St) : Prop
  | mk (w' : W) (e : w'.s = w.s) (x : Step NoF w w') (p : Ok K ρ σ w')
theorem Ok.frz {i n : Nat} {c : AO} {d : D} (hr : ρ[i]? = some (some (.loc n))) (h : σ[n]? = some c) (f : Frz c d) (p : Ok K ρ σ w) : FrzTo K w (ρ.set i (some d)) (σ.set n .dead) := by
  have hn : n < w.mn.length := p.I.len ▸ (List.getElem?_eq_some_iff.mp h).1
  have k := p.I.ok n c _ h (List.getElem?_eq_getElem hn)
  have fin : ∀ {o : Obj} (z : At w (.ob n) w.mn[n] o), (∀ w', Mono w w' → At w' .fz w.mn[n] o → Rep K.C w' d (.ref w.mn[n])) → FrzTo K w (ρ.set i (some d)) (σ.set n .dead) := fun z g => by
    obtain ⟨y, I', z'⟩ := frz_put p.I z
    refine ⟨w.put [w.mn[n]] .fz w.s.heap w.s.toks [], rfl, y, p.o, I', (p.V.stepN p.o y).put hr fun v r => ?_⟩
    obtain ⟨a, e, q⟩ := r
    cases (List.append_nil w.mn ▸ e : w.mn[n]? = some a).symm.trans (List.getElem?_eq_getElem hn)
    exact q ▸ g _ y.toMono z'
  cases f with
  | lst l => obtain ⟨vs, m, z, r⟩ := k; exact fin z fun w' M z' => ⟨_, vs, m, z', RepL.mono M _ _ r⟩
  | ds l => obtain ⟨o, vs, m, z, dd, r⟩ := k; exact fin z fun w' M z' => ⟨_, o, vs, m, z', dd, RepS.mono M _ _ r⟩
  | di l => obtain ⟨o, vs, m, z, dd, r⟩ := k; exact fin z fun w' M z' => ⟨_, o, vs, m, z', dd, RepI.mono M _ _ r⟩
theorem TR.frz (i : Nat) {n : Nat} {c : AO} {d e : D} {u : Sem Flow} (hr : ρ[i]? = some (some (.loc n))) (hn : σ[n]? = some c) (f : Frz c d) (h : TR K (ρ.set i (some d)) u (σ.set n .dead) e σ') : TR K ρ u σ e σ' := fun w E p => by
  obtain ⟨w', q, x, p'⟩ := p.frz hr hn f
  exact q ▸ wpAny_mono (h p') (fun u0 u0 o => o.after x.ofN) fun u0 u0 e => e
end
section
variable {K : Ctx} {ρ ρ' : Rho} {σ σ₁ σ' : St} {scope : Scope} {α β : Type} {ds : List D} {target iter elt t2 i2 : Expr} {ifs f2 : List Expr} {pos py spos : Pos} {y : Str} {w : W} {a : Addr} {e : Expr} {act : Sem Unit} {l l' : List D}
theorem TG_nest (he : isComp e = true) (hc : (clausesOf e)[1]? = some ⟨target, iter, ifs, 0⟩) (turn : ∀ it, compTurn e 1 it (.ref a) K.env = turnOf target iter ifs act (.compLoop e 1 it (.ref a) K.env) it K.env) (h1 : K.once = []) (ha : a ∉ K.ids) (hi : TI K ρ iter target σ ds σ₁) (hr : CRun K a (GL K.C a) target ifs act ρ ds σ₁ l σ' l') (hs : ∀ x, foldedSetIterable iter K.env x = pure x := by exact fun u0 => rfl) :
    TG K a (GL K.C a) ρ (nestOf e iter 1 (.ref a) K.env) σ l σ' l' := fun w E p q => by
  unfold nestOf
  refine wpAny_bind (wpAny_mono (hi p) (fun x s1 h1' => ?_) fun u0 u0 e => e)
  refine wpAny_bind (wpAny_standAt (wpAny_bind (wpAny_of_eq (hs x) (wpAny_bind (wpAny_holding (wpAny_mono h1' (fun it s2 h2 => ?_) fun u0 u0 e => e))))))
  obtain ⟨w2, k, J, x2, I2, X, j, hn, ok, zk⟩ := h2
  have p2 := p.next x2 I2
  have q2 : GL K.C a l w2 := gat_L.go x2.toMono (x2.mu a id) q
  have za : ∃ o, At w (.mu a) a o := let ⟨_, _, z, _⟩ := q; ⟨_, z⟩
  have ka : k ≠ a := fun e => let ⟨_, z⟩ := za; hn _ (e ▸ z.tag)
  have hid : ∀ j ∈ K.ids, j ≠ k ∧ j ≠ a := fun j m => ⟨fun q => by obtain ⟨u1, z⟩ := p.V.ids j m; exact hn _ (q ▸ z.tag), fun q => ha (q ▸ m)⟩
  refine wpAny_bind (wpAny_runOwn (codeAny_compStart_gen he hc (codeAny_mono (comp_loop he (turn it) X gat_L h1 p2 hid ka j q2 hr) ?_) fun Q E q => X.self j q))
  rintro r s3 ⟨rfl, w3, x3, p3, q3⟩
  exact wpAny_pure ⟨w3, (x2.ofN.trans x3).tight fun b q => q.imp id fun (e : b = k) => e ▸ hn, p3, q3⟩
theorem CRun.nest {M : Nat} (e : α → D) (f : α → List D) : ∀ (xs : List α) (n : List D), n.length + (xs.flatMap f).length ≤ M → (∀ x ∈ xs, ∃ ρ₁, Asg K target (e x) ρ ρ₁ ∧ Le ρ ρ₁ ∧ ∀ n : List D, n.length ≤ M → TG K a (GL K.C a) ρ₁ act σ n σ (n ++ f x)) →
    CRun K a (GL K.C a) target [] act ρ (xs.map e) σ n σ (n ++ xs.flatMap f)
  | [], n, _, _ => (List.append_nil n).symm ▸ .nil
  | x :: xs, n, hz, h => by
    obtain ⟨ρ₁, h1, h2, h3⟩ := h x (.head _)
    rw [List.flatMap_cons, List.length_append] at hz
    have ih := CRun.nest e f xs (n ++ f x) (by rw [List.length_append]; omega) fun y m => h y (.tail _ m)
    rw [List.append_assoc] at ih
    exact .act h1 h2 TT_nil (h3 n (by omega)) ih
inductive C2 (K : Ctx) (ρ : Rho) (σ : St) (target t2 i2 elt : Expr) (f2 : List Expr) (d : D) {β : Type} (ys : List β) (e2 f : β → D) (p : β → Bool) : Prop
  | mk {ρ₁ : Rho} (a : Asg K target d ρ ρ₁) (l : Le ρ ρ₁) (i : TI K ρ₁ i2 t2 σ (ys.map e2) σ) (t : ∀ y ∈ ys, CF K ρ₁ σ t2 elt f2 (e2 y) (f y) (p y))
theorem TP_ll {B : Nat} (own : List Nat) (e : α → D) (ys : α → List β) (e2 : β → D) (f : α → β → D) (p : α → β → Bool) (xs : List α) (hi : TI K ρ iter target σ ds σ₁) (hd : ds = xs.map e) (hb : ∀ x ∈ xs, (ys x).length ≤ B) (hz : (xs.flatMap fun x => ((ys x).filter (p x)).map (f x)).length + B ≤ 16777216) (H : ∀ cenv, ∀ x ∈ xs, C2 (K.sub scope own cenv) (blank own 0 ρ) σ₁ target t2 i2 elt f2 (e x) (ys x) e2 (f x) (p x)) (h : compB K.fd scope own = true := by kernel_rfl) (hs : ∀ x, foldedSetIterable iter K.env x = pure x := by exact fun u0 => rfl) (hs2 : ∀ env x, foldedSetIterable i2 env x = pure x := by exact fun u0 u0 => rfl) :
    TP K ρ (eval (.ListComp elt [⟨target, iter, [], 0⟩, ⟨t2, i2, f2, 0⟩] scope pos) K.env) σ (fun a => GL K.C a (xs.flatMap fun x => ((ys x).filter (p x)).map (f x))) σ₁ :=
  TP_lc (comp_ll h) hi (fun a cenv ha => by
    rw [hd]
    refine CRun.nest (M := (xs.flatMap fun x => ((ys x).filter (p x)).map (f x)).length) e (fun x => ((ys x).filter (p x)).map (f x)) xs [] (by rw [List.length_nil, Nat.zero_add]; exact Nat.le_refl _) fun x m => ?_
    obtain ⟨a1, l1, i1, t1⟩ := H cenv x m
    refine ⟨_, a1, l1, fun n hn => TG_nest rfl rfl (fun u0 => turn_l3) rfl ha i1 (CRun.list ha e2 (f x) (p x) (ys x) n (Nat.le_trans (Nat.add_le_add hn (hb x m)) hz) fun y m => let ⟨a, l, t, u⟩ := t1 y m; ⟨_, a, l, t, u⟩) (hs2 cenv)⟩) hs
end
theorem TS_lm0 {K : Ctx} {ρ : Rho} {σ σ₁ : St} {scope : Scope} {α : Type} {ds : List D} {target iter elt : Expr} {pos py spos : Pos} {y : Str} (i : Nat) (own : List Nat) (e f : α → D) (xs : List α) (hi : TI K ρ iter target σ ds σ₁) (hd : ds = xs.map e) (hz : xs.length ≤ 16777216) (H : ∀ cenv, ∀ x ∈ xs, CT (K.sub scope own cenv) (blank own 0 ρ) σ₁ target elt (e x) (f x)) (hy : K.ns[i]? = some y) (hm : K.may ρ i = true) (h : compB K.fd scope own = true := by kernel_rfl) (hw : swB K.fd.scope scope y py.line pos.line = false := by kernel_rfl) (hs : ∀ x, foldedSetIterable iter K.env x = pure x := by exact fun u0 => rfl) :
    TS K ρ (exec (.Assign [.Name y py] (.ListComp elt [⟨target, iter, [], 0⟩] scope pos) spos) K.env) σ .next (ρ.set i (some (.lst (xs.map f)))) σ₁ :=
  TS_asgs (TP.rest made_L (TP_lm own e f xs hi hd hz H h hs)) hy hm scope hw rfl
noncomputable def slI (a b c : Option Int) (L : List Int) : List Int := (sliceRange (sliceBounds a b c L.length).1 (sliceBounds a b c L.length).2.1 (sliceBounds a b c L.length).2.2).filterMap (L[·]?)
theorem slI_eq (a b c : Option Int) (L : List Int) : (sliceRange (sliceBounds a b c (L.map D.int).length).1 (sliceBounds a b c (L.map D.int).length).2.1 (sliceBounds a b c (L.map D.int).length).2.2).filterMap ((L.map D.int)[·]?) = (slI a b c L).map .int := by
  unfold slI
  rw [List.length_map, List.map_filterMap]
  exact congrArg (fun f => List.filterMap f _) (funext fun x => List.getElem?_map)
theorem slI_len (a b c : Option Int) (L : List Int) : (slI a b c L).length ≤ L.length := by
  refine Nat.le_trans (List.length_filterMap_le _ _) (sliceRange_length_le _ _ _ _ (fun hc => ?_) fun hc => ?_)
  · simp only [sliceBounds] at hc ⊢
    simp only [hc, if_true]
    constructor
    · cases a with
      | none => simp
      | some i => dsimp only; omega
    · cases b with
      | none => simp
      | some i => dsimp only; omega
  · simp only [sliceBounds] at hc ⊢
    simp only [hc, if_false]
    constructor
    · cases a with
      | none => simp
      | some i => dsimp only; omega
    · cases b with
      | none => simp
      | some i => dsimp only; omega
theorem fmod_nat_of (a : Int) (b : Nat) (hb : 0 < b) : (a.fmod b).toNat < b ∧ ((a.fmod b).toNat : Int) = a.fmod b :=
  have hp : (0 : Int) < (b : Int) := Int.natCast_pos.mpr hb
  have h1 := Int.fmod_nonneg_of_pos a hp
  ⟨(Int.toNat_lt h1).mpr (Int.fmod_lt_of_pos a hp), Int.toNat_of_nonneg h1⟩
noncomputable def dEnv (s : Scope) : Env := { scope := s, locals := 0, globals := 0, cells := [] }
theorem sw_env {ts : List Expr} {e : Expr} {env env' : Env} (h : env.scope = env'.scope) : swappedStores ts e env = swappedStores ts e env' := by
  obtain ⟨s, u1, u2, u3, u4, u5, u6, u7, u8⟩ := env
  obtain ⟨s', u1, u2, u3, u4, u5, u6, u7, u8⟩ := env'
  cases (show s = s' from h)
  rfl
section
variable {K : Ctx} {ρ ρ' : Rho} {σ σ' : St} {elts : List Expr} {kd : Nat} {q pos : Pos} {e : Expr} {d : D}
theorem TS_asgT0 (h : TE K ρ (eval e K.env) σ d σ') (ht : Asg K (.Tuple elts kd q) d ρ ρ') (hw : swappedStores [.Tuple elts kd q] e (dEnv K.fd.scope) = pure none := by kernel_rfl) (hs : swapsWithSole [.Tuple elts kd q] e pos.line K.env = pure false := by rfl) :
    TS K ρ (exec (.Assign [.Tuple elts kd q] e pos) K.env) σ .next ρ' σ' := fun u0 u0 p => TS_asgT h ht hs ((sw_env p.o.scope).trans hw) p
end
end Mine
end
section
open PySem PySem.W PyProof.Rows
namespace Mine
noncomputable def mkS (l : List Nat) : Str := ⟨l.toArray⟩
theorem mkS_inj {a b : List Nat} : mkS a = mkS b ↔ a = b := ⟨fun h => congrArg (fun s : Str => s.cps.toList) h, congrArg mkS⟩
theorem mkS_len (l : List Nat) : (mkS l).length = l.length := List.size_toArray
theorem mkS_app (a b : List Nat) : mkS a ++ mkS b = mkS (a ++ b) := by
  show (⟨(a.toArray ++ b.toArray)⟩ : Str) = _
  rw [List.append_toArray]; rfl
theorem signs_mk (l : List Nat) : signs (mkS l) = l.map fun c => .str (mkS [c]) := rfl
theorem glue_go : ∀ (ps : List (List Nat)) (acc : List Nat), (ps.map mkS).foldl (fun acc p => acc ++ #[] ++ p.cps) acc.toArray = (acc ++ ps.flatten).toArray
  | [], acc => by rw [List.flatten_nil, List.append_nil]; rfl
  | p :: ps, acc => by
    rw [List.map_cons, List.foldl_cons, show acc.toArray ++ #[] ++ (mkS p).cps = (acc ++ p).toArray by rw [Array.append_empty]; exact List.append_toArray .., glue_go ps, List.flatten_cons, List.append_assoc]
theorem join_empty (ts : List (List Nat)) : Txt.join ⟨#[]⟩ (ts.map mkS) = mkS ts.flatten := by
  cases ts with
  | nil => rfl
  | cons t ts => exact congrArg Str.mk (glue_go ts t)
theorem bin_cat {a b : List Nat} (h : a.length + b.length ≤ 16777216) : BinOk .Add (.str (mkS a)) (.str (mkS b)) (.str (mkS (a ++ b))) := mkS_app a b ▸ bin_adds (by rw [mkS_len, mkS_len]; exact h)
theorem ibin_cat {a b : List Nat} (h : a.length + b.length ≤ 16777216) : IBinOk .Add (.str (mkS a)) (.str (mkS b)) (.str (mkS (a ++ b))) := mkS_app a b ▸ ibin_adds (by rw [mkS_len, mkS_len]; exact h)
theorem TB_or {K : Ctx} {ρ : Rho} {σ : St} {e : Expr} {l : List Expr} {p q : Bool} (h : TB K ρ (isTrue e K.env (eval e K.env)) σ p σ) (h' : TB K ρ (allTrue .Or l K.env) σ q σ) : TB K ρ (allTrue .Or (e :: l) K.env) σ (p || q) σ := by
  cases p with
  | true => exact TB_or_t h
  | false => exact TB_or_f h h'
theorem TB_and {K : Ctx} {ρ : Rho} {σ : St} {e : Expr} {l : List Expr} {p q : Bool} (h : TB K ρ (isTrue e K.env (eval e K.env)) σ p σ) (h' : TB K ρ (allTrue .And l K.env) σ q σ) : TB K ρ (allTrue .And (e :: l) K.env) σ (p && q) σ := by
  cases p with
  | true => exact TB_and_t h h'
  | false => exact TB_and_f h
noncomputable def isEsc (marked : List Nat) (w p c : Nat) : Bool := w % 2 == 1 || (marked.contains c || (c == 34 && p == 0))
noncomputable def markedL (w : Nat) : List Nat := if w % 4 < 2 then [92, 34] else [92, 10, 9, 13, 32]
noncomputable def escL (w : Nat) : List Nat → Nat → List (Bool × Nat)
  | [], _ => []
  | c :: r, p => (isEsc (markedL w) w p c, c) :: escL w r (p + 1)
noncomputable def encE (e : Bool × Nat) : List Nat := if e.1 then [92, e.2] else [e.2]
noncomputable def encW (es : List (Bool × Nat)) : List Nat := (es.map encE).flatten
noncomputable def gapL (w : Nat) : List Nat := match w / 4 % 5 with
  | 0 => [10] | 1 => [9] | 2 => [13] | 3 => [32] | _ => if w % 4 < 2 then [] else [32, 10]
noncomputable def spell (word : List Nat) (w : Nat) : List Nat := if w % 4 < 2 then 34 :: (encW (escL w word 0) ++ 34 :: gapL w) else encW (escL w word 0) ++ gapL w
theorem escL_zip (w : Nat) : ∀ (word : List Nat) (p : Nat), escL w word p = (word.zipIdx p).map fun x => (isEsc (markedL w) w x.2 x.1, x.1)
  | [], _ => rfl
  | c :: r, p => congrArg ((isEsc (markedL w) w p c, c) :: ·) (escL_zip w r (p + 1))
theorem escL_len (w : Nat) (word : List Nat) (p : Nat) : (escL w word p).length = word.length := by rw [escL_zip, List.length_map, List.length_zipIdx]
theorem encE_len (e : Bool × Nat) : (encE e).length ≤ 2 := by unfold encE; split; exact Nat.le_refl _; exact Nat.le_succ _
theorem encW_len : ∀ es : List (Bool × Nat), (encW es).length ≤ 2 * es.length
  | [] => Nat.le_refl _
  | e :: r => by
    show (encE e ++ encW r).length ≤ 2 * (r.length + 1)
    have := encW_len r
    have := encE_len e
    rw [List.length_append]; omega
theorem gapL_len (w : Nat) : (gapL w).length ≤ 2 := by unfold gapL; repeat' split
                                                       all_goals decide
noncomputable def fd13 : Fd := ⟨(pT 13).scope, ["word", "way", "quoted", "marked", "told", "gap", "place", "sign"], [0, 1, 2, 3, 4, 5], []⟩
theorem fd13_ok : fnB fd13 (pT 13).params [] = true := by kernel_rfl
theorem sp_q (w : Nat) : decide ((w : Int).fmod 4 < 2) = decide (w % 4 < 2) := by
  rw [show (4 : Int) = ((4 : Nat) : Int) from rfl, fmod_nat]; exact decide_eq_decide.mpr (by omega)
theorem sp_2 (w : Nat) : ((w : Int).fmod 2 == 1) = (w % 2 == 1) := by
  rw [show (2 : Int) = ((2 : Nat) : Int) from rfl, fmod_nat]; exact Bool.eq_iff_iff.mpr (by rw [beq_iff_eq, beq_iff_eq]; omega)
theorem in1 (m : List Nat) (c : Nat) : (!(Builtin.Str.occurrences (mkS m) (mkS [c]) 0 (mkS m).length 1).isEmpty) = m.contains c :=
  (StrLaws.found_one (mkS m) c).trans (Bool.eq_iff_iff.mpr (by rw [decide_eq_true_iff]; exact List.contains_iff_mem.symm))
theorem eq1 (c d : Nat) : (mkS [c] == mkS [d]) = (c == d) := Bool.eq_iff_iff.mpr (by rw [beq_iff_eq, beq_iff_eq, mkS_inj]; exact List.singleton_inj)
theorem eqz (p : Nat) : ((p : Int) == 0) = (p == 0) := Bool.eq_iff_iff.mpr (by rw [beq_iff_eq, beq_iff_eq]; omega)
theorem sp_test (w p c : Nat) : (((w : Int).fmod 2 == 1) || ((!(Builtin.Str.occurrences (mkS (markedL w)) (mkS [c]) 0 (mkS (markedL w)).length 1).isEmpty) || (((mkS [c] == mkS [34]) && (((p : Int) == 0) && true)) || false))) = isEsc (markedL w) w p c := by
  rw [sp_2, in1, eq1, eqz, Bool.or_false, Bool.and_true]; rfl
theorem sp_gap (w : Nat) (x : D) (h : x = .str (mkS (if w % 4 < 2 then [] else [32, 10]))) : ([.str (mkS [10]), .str (mkS [9]), .str (mkS [13]), .str (mkS [32]), x] : List D)[w / 4 % 5]? = some (.str (mkS (gapL w))) := by
  have := Nat.mod_lt (w / 4) (show 0 < 5 by decide)
  unfold gapL
  generalize w / 4 % 5 = j at this
  rcases Nat.lt_or_eq_of_le (Nat.le_of_lt_succ this) with q | q
  · exact (List.forall_mem_cons.mpr ⟨rfl, List.forall_mem_cons.mpr ⟨rfl, List.forall_mem_cons.mpr ⟨rfl, List.forall_mem_cons.mpr ⟨rfl, fun u0 m => nomatch m⟩⟩⟩⟩ : ∀ j ∈ [0, 1, 2, 3], ([.str (mkS [10]), .str (mkS [9]), .str (mkS [13]), .str (mkS [32]), x] : List D)[j]? = some (.str (mkS (match j with | 0 => [10] | 1 => [9] | 2 => [13] | 3 => [32] | _ => if w % 4 < 2 then [] else [32, 10])))) j ((by decide : ∀ j < 4, j ∈ [0, 1, 2, 3]) j q)
  · rw [q]; exact congrArg some h
theorem sp_idx (w : Nat) : D.int (((w : Int).fdiv 4).fmod 5) = .int ((w / 4 % 5 : Nat) : Int) := by
  rw [show (4 : Int) = ((4 : Nat) : Int) from rfl, fdiv_nat, show (5 : Int) = ((5 : Nat) : Int) from rfl, fmod_nat]
theorem sp_told (w : Nat) (word : List Nat) : D.lst (word.zipIdx.map fun x => .str (mkS (encE (isEsc (markedL w) w x.2 x.1, x.1)))) = .lst ((((escL w word 0).map encE).map mkS).map .str) := by
  rw [escL_zip, List.map_map, List.map_map, List.map_map]; rfl
theorem spelled_body {C : Cx} {k ca : Nat} {w : Nat} {word : List Nat} {σ : St} (G : Names C) (hl : word.length ≤ 1000) : Body C k fd13 ca (pT 13).body [some (.str (mkS word)), some (.int (w : Nat)), none, none, none, none, none, none] σ (.str (mkS (spell word w))) σ := .ret fun A env hc' => by
  have hesc := escL_len w word 0
  have hz := encW_len (escL w word 0)
  have hg := gapL_len w
  refine TR_cons (TS_asg (i := 2) ((TE_cmp (TE_bin (tv 1 rfl) TE_int (bin_fmod (by decide))) TE_int cmp_lt rfl).val (congrArg D.bool (sp_q w))) rfl rfl rfl) ?_
  refine TR_cons (TS_asg (i := 3) (d := .str (mkS (markedL w))) (TE_ite (TB_value (tv 2 rfl) truth_bool) (fun h => TE_str.val (by unfold markedL; rw [if_pos (of_decide_eq_true h)]; rfl)) (fun h => TE_str.val (by unfold markedL; rw [if_neg (of_decide_eq_false h)]; rfl))) rfl rfl rfl) ?_
  refine TR_cons (TS_asg (i := 4) (d := .str (mkS (encW (escL w word 0)))) ((TE_join (sep := mkS []) (ss := ((escL w word 0).map encE).map mkS) (join_ok 2 (fun t m => by obtain ⟨l, q, rfl⟩ := List.mem_map.mp m; obtain ⟨e, q, rfl⟩ := List.mem_map.mp q; rw [mkS_len, mkS_len]; exact encE_len e) (by rw [List.length_map, List.length_map, hesc]; omega)) TE_str (.z _)
    (a1 ((TP.rest made_L (TP_lm [6, 7] (fun x : Nat × Nat => .tup [.int (x.2 : Nat), .str (mkS [x.1])]) (fun x => .str (mkS (encE (isEsc (markedL w) w x.2 x.1, x.1)))) word.zipIdx (TI_enum G.enum (by kernel_rfl) (tv 0 rfl) (enum_str (x := mkS word))) (enumD_map (fun c => .str (mkS [c])) word) (by rw [List.length_zipIdx]; omega) fun cenv x m =>
      ⟨.t (.cons (i := 6) rfl rfl (.cons (i := 7) rfl rfl (.nil _))), (Le.set rfl).trans (.set rfl), TE_ite (q := isEsc (markedL w) w x.2 x.1) (TB.to (TB_boolop (TB_or (TB_cmp (TE_bin (tv 1 rfl) TE_int (bin_fmod (by decide))) TE_int cmp_eqi rfl) (TB_or (TB_cmp (tv 7 rfl) (tv 3 rfl) cmp_ins rfl) (TB_or (TB_boolop (TB_and (TB_cmp (tv 7 rfl) TE_str cmp_eqs rfl) (TB_and (TB_cmp (tv 6 rfl) TE_int cmp_eqi rfl) TB_and_nil))) TB_or_nil)))) (sp_test w x.2 x.1))
        (fun h => (TE_bin TE_str (tv 7 rfl) (bin_adds (x := mkS [92]) (y := mkS [x.1]) (Nat.le_of_ble_eq_true rfl))).val (by rw [h]; rfl)) (fun h => TE.val (d := .str (mkS [x.1])) (tv 7 rfl) (by rw [h]; rfl))⟩)).val (sp_told w word)))).val (congrArg D.str (join_empty _))) rfl rfl rfl) ?_
  refine TR_cons (TS_asg (i := 5) (TE_idx (TE_tuple (ac TE_str (ac TE_str (ac TE_str (ac TE_str (a1 (TE_ite (d := .str (mkS (if w % 4 < 2 then [] else [32, 10]))) (TB_value (tv 2 rfl) truth_bool) (fun h => TE_str.val (by rw [if_pos (of_decide_eq_true h)]; rfl)) (fun h => TE_str.val (by rw [if_neg (of_decide_eq_false h)]; rfl)))))))) (Nat.le_of_ble_eq_true rfl))
    ((TE_bin (TE_bin (tv 1 rfl) TE_int (bin_fdiv (by decide) (by decide))) TE_int (bin_fmod (by decide))).val (sp_idx w)) (idx_tup (sp_gap w _ rfl) (by have := Nat.mod_lt (w / 4) (show 0 < 5 by decide); omega))) rfl rfl rfl) ?_
  unfold spell
  generalize encW (escL w word 0) = told at *
  generalize gapL w = gap at *
  exact TR_stop (TR_ret (TE_ite (TB_value (tv 2 rfl) truth_bool)
    (fun h => (TE_bin (TE_bin (TE_bin TE_str (tv 4 rfl) (bin_cat (a := [34]) (b := told) (by show 1 + _ ≤ _; omega))) TE_str (bin_cat (a := [34] ++ told) (b := [34]) (by rw [List.length_append]; show 1 + _ + 1 ≤ _; omega))) (tv 5 rfl) (bin_cat (a := [34] ++ told ++ [34]) (b := gap) (by rw [List.length_append, List.length_append]; show 1 + _ + 1 + _ ≤ _; omega))).val
      (by rw [if_pos (of_decide_eq_true h), List.append_assoc, List.append_assoc]; rfl))
    (fun h => (TE_bin (tv 4 rfl) (tv 5 rfl) (bin_cat (a := told) (b := gap) (by omega))).val (by rw [if_neg (of_decide_eq_false h)]))))
theorem spelled_fn {C : Cx} {fa : Addr} {w : Nat} {word : List Nat} {σ : St} (G : Names C) (F : Fn C "_law_spelled" (pT 13).params (pT 13).scope (pT 13).body fa) (hl : word.length ≤ 1000) : FnTo C 1 fa [.str (mkS word), .int (w : Nat)] σ (.str (mkS (spell word w))) σ :=
  fn_to (f := fd13) F G.lim fd13_ok (.cons 0 rfl rfl (.cons 1 rfl rfl .nil)) fun u0 u0 => spelled_body (k := 0) G hl
end Mine
end
section
open PySem PySem.W PyProof.Rows
namespace Mine
theorem set_eq {α : Type} {l : List α} {n : Nat} {a : α} (h : l[n]? = some a) : l.set n a = l := by
  obtain ⟨h1, h2⟩ := List.getElem?_eq_some_iff.mp h
  rw [← h2]; exact List.set_getElem_self h1
structure EPt where
  i : LamInfo
  e : Expr
  a : List Expr
  p : Nat × Nat
noncomputable def i0 : LamInfo := ⟨⟨[], [], none, [], [], none, []⟩, e0, default⟩
noncomputable def ept : Expr → EPt
  | .Lambda p b s q => ⟨⟨p, b, s⟩, e0, [], (q.line, q.col)⟩
  | .UnaryOp _ e _ => ⟨i0, e, [], (0, 0)⟩
  | .Call _ a _ _ => ⟨i0, e0, a, (0, 0)⟩
  | _ => ⟨i0, e0, [], (0, 0)⟩
noncomputable def lamE (e : Expr) : LamInfo := (ept e).i
noncomputable def valS (s : Stmt) : Expr := (prt s).e
structure LamAt (C : Cx) (j : Nat) (i : LamInfo) : Prop where
  is : C.LT j i
  uniq : ∀ i', C.LT j i' → i' = i
structure FnTab (C : Cx) (f : FnT) (fa P : Addr) : Prop where
  hd : ∀ c, FnAt C fa f.params f.scope f.body c → CodeHd C.h0 c P
  ba : C.h0.BuiltinsAt C.mg P
noncomputable def lam1 : LamInfo := lamE (valS ((pT 12).body.getD 2 (.Pass default)))
noncomputable def fdL1 : Fd := ⟨lam1.scope, ["size", "signs", "_"], [0], []⟩
noncomputable def sg (c : Nat) : D := .str (mkS [c])
noncomputable def rdC (IT : Nat) : List (Str × D) := [("signs", .loc IT)]
theorem fdL1_ok (IT : Nat) : fnB fdL1 lam1.params ((rdC IT).map (·.1)) = true := by
  show fnB fdL1 lam1.params ["signs"] = true
  kernel_rfl
theorem fdL1_free (IT : Nat) : ((rdC IT).map (·.1)).all (fun x => fdL1.scope.names.lookup x == some .free) = true := by
  show (["signs"] : List Str).all (fun x => fdL1.scope.names.lookup x == some .free) = true
  kernel_rfl
theorem TE_next2 {K : Ctx} {ρ : Rho} {σ σ₁ σ₂ : St} {n : Nat} {d : D} {l : List D} {e e' : Expr} {p pos : Pos} (G : Names K.C) (he : TE K ρ (eval e K.env) σ (.loc n) σ₁) (he' : TE K ρ (eval e' K.env) σ₁ d σ₂) (hn : σ₂[n]? = some (.it l)) (hk : K.fd.glob "next" = true := by kernel_rfl) (hu : unstarred [e, e'] = true := by rfl) (hs : unstarred [e] = true := by rfl) (hs' : unstarred [e'] = true := by rfl) :
    TE K ρ (eval (.Call (.Name "next" p) [e, e'] [] pos) K.env) σ (l.headD d) (σ₂.set n (.it l.tail)) :=
  TE_bi G.next hk rfl hu (a2 he he' hs hs') fun q r => by
    cases l with
    | nil => rw [List.tail_nil, set_eq hn]; exact bi_next0 hn q.o.room.handled q.I r
    | cons x l => exact bi_next2 hn q.I r
theorem kset_read {IT : Nat} : capR fdL1 (rdC IT) = [none, some (.loc IT), none] := by kernel_rfl
theorem read_lam {C : Cx} {IT : Nat} {cs : List Nat} {σ : St} (G : Names C) (hl : LamAt C 1 lam1) (h : σ[IT]? = some (.it (cs.map sg))) : LamTo C 1 1 (rdC IT) [.int 1] σ (.str (mkS (cs.take 1))) (σ.set IT (.it (cs.tail.map sg))) :=
  call_lam (f := fdL1) G.lim hl.uniq (fdL1_ok IT) (fdL1_free IT) (by rw [kset_read]; exact .cons 0 rfl rfl .nil) fun A env => by
    have hd : (cs.map sg).headD (.str ⟨#[]⟩) = .str (mkS (cs.take 1)) := by cases cs <;> rfl
    have ht : (cs.map sg).tail = cs.tail.map sg := by cases cs <;> rfl
    have hj : (cs.take 1).length ≤ 1 := List.length_take_le _ _
    exact ((TE_join (sep := ⟨#[]⟩) (ss := [mkS (cs.take 1)]) (join_ok 1 (fun t m => by cases List.mem_singleton.mp m; rw [mkS_len]; exact hj) (Nat.le_of_ble_eq_true rfl)) TE_str (.z _)
      (a1 (TP.rest made_L (TP_lc (own := [2]) (comp_l (by kernel_rfl)) (TI_range1 (n := 1) G.range (by kernel_rfl) rfl (a1 (tv 0 rfl)) (Nat.le_of_ble_eq_true rfl)) fun a cenv ha =>
        .act (.v (i := 2) rfl rfl) (.set rfl) TT_nil (TG_list ((TE_next2 G (tv 1 rfl) TE_str h).to ⟨hd, by rw [ht]⟩) ha (Nat.le_of_ble_eq_true rfl)) .nil)))).val (congrArg D.str ((join_empty [cs.take 1]).trans (congrArg mkS (List.append_nil _)))))
noncomputable def fd12 : Fd := ⟨(pT 12).scope, ["text", "signs", "stream"], [0, 1, 2], [1]⟩
theorem fd12_ok : fnB fd12 (pT 12).params [] = true := by kernel_rfl
noncomputable def rdF (IT : Nat) : List (Str × D) := [("read", .lam 1 (rdC IT))]
noncomputable def posE (e : Expr) : Nat × Nat := (ept e).p
noncomputable def lnS : List (Nat × Nat) := [posE (valS ((pT 12).body.getD 1 (.Pass default))), posE (valS ((pT 12).body.getD 2 (.Pass default)))]
theorem str_end {σ : St} {t : Nat} {P : Addr} {a b : List (Nat × Nat)} {x y z : AO} (ht : t < σ.length) : ((((σ ++ [x]).set t (.tab P a)) ++ [y]).set t (.tab P b)).set (σ.length + 1) z = σ.set t (.tab P b) ++ [x, z] := by
  rw [List.set_append_left _ _ ht, List.append_assoc, List.set_append_left _ _ (by rw [List.length_set]; exact ht), List.set_set, List.set_append_right _ _ (by rw [List.length_set]; exact Nat.le_succ _), List.length_set, Nat.add_sub_cancel_left]
  rfl
theorem stream_fn {C : Cx} {fa P : Addr} {t : Nat} {text : List Nat} {σ : St} (G : Names C) (F : Fn C "_law_stream" (pT 12).params (pT 12).scope (pT 12).body fa) (T : FnTab C (pT 12) fa P) (hl : LamAt C 1 lam1) (hz : text.length ≤ 1000000) (h : σ[t]? = some (.tab P [])) :
    FnTo C 1 fa [.str (mkS text)] σ (.loc (σ.length + 1)) (σ.set t (.tab P lnS) ++ [.it (text.map sg), .fo (rdF σ.length)]) := by
  have ht : t < σ.length := (List.getElem?_eq_some_iff.mp h).1
  refine fn_to (f := fd12) F G.lim fd12_ok (.cons 0 rfl rfl .nil) fun c hc => .ret fun A env hc' => ?_
  have h2 : (σ ++ [.it (text.map sg)])[t]? = some (.tab P []) := at_app h
  refine TR_cons (TS_asg (i := 1) (TE_bi G.iter (by kernel_rfl) rfl rfl (a1 (TE_listStr G.list (by kernel_rfl) (tv 0 rfl) (y := mkS text) (by rw [show (mkS text).cps.size = text.length from List.size_toArray]; exact Nat.le_trans hz (by decide)))) fun q r => bi_iter q.I r) rfl rfl rfl) ?_
  refine TR_cons (TS_asg (i := 2) ((TE_lam0 (t := t) ⟨⟨c, hc', T.hd c hc⟩, T.ba, h2⟩ rfl (by kernel_rfl)).to ⟨by rw [List.length_set, List.length_append], rfl⟩) rfl rfl rfl) ?_
  have h3 : ∀ {x y : AO}, ((σ ++ [AO.it (text.map sg)]).set t x ++ [y])[t]? = some x := fun {x y} => at_app (List.getElem?_set_self (by rw [List.length_append]; omega))
  have h4 : ∀ {x y z : AO}, (((σ ++ [AO.it (text.map sg)]).set t x ++ [y]).set t z)[σ.length + 1]? = some y := fun {x y z} => by
    rw [List.getElem?_set_ne (by omega), List.getElem?_append_right (by rw [List.length_set, List.length_append]; exact Nat.le_refl _), List.length_set, List.length_append]
    show [y][σ.length + 1 - (σ.length + 1)]? = _
    rw [Nat.sub_self]; rfl
  refine TR_cons (TS_setf fn_read (TE_lam (t := t) (j := 1) (c := rdC σ.length) ⟨⟨c, hc', T.hd c hc⟩, T.ba, h3⟩ rfl hl.is (.cons 1 rfl rfl (by kernel_rfl) .nil) (by kernel_rfl) (by show _ = true; kernel_rfl)) (tv 2 rfl) h4) ?_
  exact (TR_stop (TR_ret (tv 2 rfl))).to ⟨rfl, str_end ht⟩
end Mine
end
section
open PySem PySem.W PyProof.Rows
namespace Mine
structure Lx where
  ct : Addr
  L : Nat
  IT : Nat
  FO : Nat
  Pb : Nat
noncomputable def Lx.fs (x : Lx) (ln : Nat) : List (Str × D) := [("lineno", .int (ln : Nat)), ("instream", .loc x.FO), ("whitespace", .str (mkS [10, 9, 13, 32])), ("pushback", .loc x.Pb)]
noncomputable def Lx.at (x : Lx) (τ : St) (ln : Nat) (cs : List Nat) : St := (τ.set x.IT (.it (cs.map sg))).set x.L (.ins x.ct (x.fs ln))
structure Lx.H (x : Lx) (τ : St) : Prop where
  L : x.L < τ.length
  I : x.IT < τ.length
  ne : x.L ≠ x.IT
  fo : τ[x.FO]? = some (.fo (rdF x.IT))
  f1 : x.FO ≠ x.L
  f2 : x.FO ≠ x.IT
section
variable {x : Lx} {τ : St} {ln ln' : Nat} {cs cs' : List Nat} {m : Nat} {o : AO}
theorem Lx.len : (x.at τ ln cs).length = τ.length := by unfold Lx.at; rw [List.length_set, List.length_set]
theorem Lx.H.at_L (h : x.H τ) : (x.at τ ln cs)[x.L]? = some (.ins x.ct (x.fs ln)) := List.getElem?_set_self (by rw [List.length_set]; exact h.L)
theorem Lx.H.at_I (h : x.H τ) : (x.at τ ln cs)[x.IT]? = some (.it (cs.map sg)) := (List.getElem?_set_ne h.ne).trans (List.getElem?_set_self h.I)
theorem Lx.at_o (h1 : m ≠ x.L) (h2 : m ≠ x.IT) : (x.at τ ln cs)[m]? = τ[m]? := (List.getElem?_set_ne h1.symm).trans (List.getElem?_set_ne h2.symm)
theorem Lx.H.at_F (h : x.H τ) : (x.at τ ln cs)[x.FO]? = some (.fo (rdF x.IT)) := (Lx.at_o h.f1 h.f2).trans h.fo
theorem Lx.H.set_I (h : x.H τ) : (x.at τ ln cs).set x.IT (.it (cs'.map sg)) = x.at τ ln cs' := by unfold Lx.at; rw [List.set_comm _ _ h.ne, List.set_set]
theorem Lx.set_L : (x.at τ ln cs).set x.L (.ins x.ct (x.fs ln')) = x.at τ ln' cs := List.set_set ..
theorem Lx.H.app (h : x.H τ) : x.at (τ ++ [o]) ln cs = x.at τ ln cs ++ [o] := by
  unfold Lx.at
  rw [List.set_append_left _ _ h.I, List.set_append_left _ _ (by rw [List.length_set]; exact h.L)]
theorem Lx.H.more (h : x.H τ) : x.H (τ ++ [o]) := ⟨by rw [List.length_append]; exact Nat.lt_succ_of_lt h.L, by rw [List.length_append]; exact Nat.lt_succ_of_lt h.I, h.ne, at_app h.fo, h.f1, h.f2⟩
theorem Lx.H.same (h : x.H τ) (h1 : τ[x.L]? = some (.ins x.ct (x.fs ln))) (h2 : τ[x.IT]? = some (.it (cs.map sg))) : x.at τ ln cs = τ := by
  unfold Lx.at
  rw [set_eq h2, set_eq h1]
end
noncomputable def nl (c : Nat) : Nat := if c = 10 then 1 else 0
noncomputable def nls (l : List Nat) : Nat := (l.map nl).sum
theorem nls_cons (c : Nat) (l : List Nat) : nls (c :: l) = nl c + nls l := rfl
theorem nls_app (a b : List Nat) : nls (a ++ b) = nls a + nls b := by unfold nls; rw [List.map_append, List.sum_append]
noncomputable def isWs (c : Nat) : Bool := [10, 9, 13, 32].contains c
structure LexF (C : Cx) (c f2 f3 : Addr) : Prop where
  ln : InsFacts C c "lineno"
  ins : InsFacts C c "instream"
  ws : InsFacts C c "whitespace"
  pb : InsFacts C c "pushback"
  rd : Meth C c "_read_char" (pM 5 1).params (pM 5 1).scope (pM 5 1).body C.rc
  rf : MethFacts C c "_read_char" C.rc
  rb : BoundFacts C c "_read_char" C.rc
  gt : Meth C c "get_token" (pM 5 2).params (pM 5 2).scope (pM 5 2).body f2
  gf : MethFacts C c "get_token" f2
  pt : Meth C c "push_token" (pM 5 3).params (pM 5 3).scope (pM 5 3).body f3
  pf : MethFacts C c "push_token" f3
  lam : LamAt C 1 lam1
theorem Meth.isFn {C : Cx} {c : Addr} {x : Str} {params : Arguments} {scope : Scope} {body : List Stmt} {fa : Addr} (F : Meth C c x params scope body fa) : IsFn C fa := let ⟨_, a⟩ := F.at_; a.isFn
noncomputable def fdRC : Fd := ⟨(pM 5 1).scope, ["self", "ch"], [0, 1], []⟩
theorem fdRC_ok : fnB fdRC (pM 5 1).params [] = true := by kernel_rfl
noncomputable def fdPT : Fd := ⟨(pM 5 3).scope, ["self", "token"], [0, 1], []⟩
theorem fdPT_ok : fnB fdPT (pM 5 3).params [] = true := by kernel_rfl
noncomputable def fdNI : Fd := ⟨(pM 5 0).scope, ["self", "fp"], [0, 1], []⟩
theorem fdNI_ok : fnB fdNI (pM 5 0).params [] = true := by kernel_rfl
section
variable {C : Cx} {f0 f2 f3 : Addr} {x : Lx} {τ σ : St} {ln : Nat} {cs : List Nat}
theorem read_fn (G : Names C) (X : LexF C x.ct f2 f3) (h : x.H τ) : FnTo C 2 C.rc [.loc x.L] (x.at τ ln cs) (.str (mkS (cs.take 1))) (x.at τ (ln + nls (cs.take 1)) cs.tail) :=
  meth_to (f := fdRC) X.rd G.lim fdRC_ok (.cons 0 rfl rfl .nil) fun c => .ret fun A env hc => by
    refine TR_cons (TS_asg (i := 1) ((TE_fcall (read_lam G X.lam h.at_I) (Nat.le_refl _) fn_read (TE_attr X.ins (tv 0 rfl) h.at_L (by kernel_rfl)) h.at_F (by kernel_rfl) rfl (a1 TE_int)).st h.set_I) rfl rfl rfl) ?_
    cases cs with
    | nil => exact TR_cons (TS_if_f (TB.to (TB_cmp (tv 1 rfl) TE_str cmp_eqs rfl) (by kernel_rfl)) TS_nil) (TR_stop (TR_ret (tv 1 rfl)))
    | cons c r =>
      by_cases hc : c = 10
      · subst hc
        exact TR_cons (TS_if_t (TB.to (TB_cmp (tv 1 rfl) TE_str cmp_eqs rfl) (eq1 10 10)) (TS_cons ((TS_auga X.ln (tv 0 rfl) h.at_L (a := .int (ln : Nat)) (by kernel_rfl) TE_int ibin_add h.at_L (Nat.le_of_ble_eq_true rfl)).st Lx.set_L) TS_nil)) (TR_stop (TR_ret (tv 1 rfl)))
      · refine (TR_cons (TS_if_f (TB.to (TB_cmp (tv 1 rfl) TE_str cmp_eqs rfl) ((eq1 c 10).trans (beq_eq_false_iff_ne.mpr hc))) TS_nil) (TR_stop (TR_ret (tv 1 rfl)))).to ⟨rfl, ?_⟩
        rw [show nls ((c :: r).take 1) = 0 from congrArg (· + 0) (if_neg hc)]; rfl
theorem push_fn (G : Names C) (X : LexF C x.ct f2 f3) (t : D) (l : List D) (hL : σ[x.L]? = some (.ins x.ct (x.fs ln))) (hP : σ[x.Pb]? = some (.lst l)) (hl : l.length ≤ 1000000) : FnTo C 1 f3 [.loc x.L, t] σ .none (σ.set x.Pb (.lst (l ++ [t]))) :=
  meth_to (f := fdPT) X.pt G.lim fdPT_ok (.cons 0 rfl rfl (.cons 1 rfl rfl .nil)) fun c => .none _ fun A env hc =>
    TS_cons (TS_ex (TE_append hP hP (Nat.le_trans hl (by decide)) (TE_attr X.pb (tv 0 rfl) hL (by kernel_rfl)) (a1 (tv 1 rfl)))) TS_nil
theorem ninit_fn (G : Names C) (X : LexF C x.ct f2 f3) (F : Meth C x.ct "__init__" (pM 5 0).params (pM 5 0).scope (pM 5 0).body f0) (hL : σ[x.L]? = some (.ins x.ct [])) (hp : x.Pb = σ.length) : FnTo C 1 f0 [.loc x.L, .loc x.FO] σ .none (σ.set x.L (.ins x.ct (x.fs 1)) ++ [.lst []]) :=
  meth_to (f := fdNI) F G.lim fdNI_ok (.cons 0 rfl rfl (.cons 1 rfl rfl .nil)) fun c => .none _ fun A env hc => by
    have hl : x.L < σ.length := (List.getElem?_eq_some_iff.mp hL).1
    have hs : ∀ {o}, (σ.set x.L o)[x.L]? = some o := fun {o} => List.getElem?_set_self hl
    refine TS_cons (TS_seta X.ln TE_int (tv 0 rfl) hL (Nat.zero_le _)) (TS_cons ((TS_seta X.ins (tv 1 rfl) (tv 0 rfl) hs (Nat.le_of_ble_eq_true rfl)).st (List.set_set ..)) (TS_cons ((TS_seta X.ws TE_str (tv 0 rfl) hs (Nat.le_of_ble_eq_true rfl)).st (List.set_set ..))
      (TS_cons ((TS_seta X.pb ((TP_list an (Nat.zero_le _)).loc made_L) (tv 0 rfl) (at_app hs) (Nat.le_of_ble_eq_true rfl)).st ?_) TS_nil)))
    rw [List.set_append_left _ _ (by rw [List.length_set]; exact hl), List.set_set, List.length_set, ← hp]
    rfl
end
end Mine
end
section
open PySem PySem.W PyProof.Rows
namespace Mine
noncomputable def left (w : Nat) : List Nat := if w % 4 < 2 then gapL w else (gapL w).tail
noncomputable def took (word : List Nat) (w : Nat) : List Nat := if w % 4 < 2 then 34 :: (encW (escL w word 0) ++ [34]) else encW (escL w word 0) ++ (gapL w).take 1
theorem gapL_ws (w : Nat) : ∀ c ∈ gapL w, isWs c = true := by
  have h : (gapL w).all isWs = true := by unfold gapL; repeat' split
                                          all_goals rfl
  exact List.all_eq_true.mp h
theorem gapL_ne {w : Nat} (h : ¬ w % 4 < 2) : ∃ c r, gapL w = c :: r := by
  unfold gapL
  split <;> (try rw [if_neg h]) <;> exact ⟨_, _, rfl⟩
theorem escL_snd (w : Nat) : ∀ (word : List Nat) (p : Nat), (escL w word p).map (·.2) = word
  | [], _ => rfl
  | c :: r, p => congrArg (c :: ·) (escL_snd w r (p + 1))
theorem escL_mem (w : Nat) : ∀ (word : List Nat) (p : Nat) (e : Bool × Nat), e ∈ escL w word p → e.1 = false → (markedL w).contains e.2 = false
  | c :: r, p, e, h, hf => by
    rcases List.mem_cons.mp h with rfl | h
    · exact (Bool.or_eq_false_iff.mp (Bool.or_eq_false_iff.mp hf).2).1
    · exact escL_mem w r (p + 1) e h hf
noncomputable def fdGT : Fd := ⟨(pM 5 2).scope, ["self", "token", "fiter", "ch"], [0, 1, 2, 3], []⟩
theorem fdGT_ok : fnB fdGT (pM 5 2).params [] = true := by kernel_rfl
noncomputable def gR (L F : Nat) (acc : List Nat) : Rho := [some (.loc L), some (.str (mkS acc)), some (.loc F), none]
noncomputable def gE (L F : Nat) : Rho := [some (.loc L), none, some (.loc F), none]
structure GS where
  es : List (Bool × Nat)
  acc : List Nat
  ln : Nat
structure GS.P (b : GS) (bad : Nat → Bool) : Prop where
  es : ∀ e ∈ b.es, e.1 = false → bad e.2 = false ∧ e.2 ≠ 92
  l : b.acc.length + b.es.length ≤ 10000000
theorem GS.P.cons {e : Bool × Nat} {es : List (Bool × Nat)} {acc : List Nat} {ln : Nat} {bad : Nat → Bool} (h : GS.P ⟨e :: es, acc, ln⟩ bad) (ln' : Nat) : GS.P ⟨es, acc ++ [e.2], ln'⟩ bad :=
  ⟨fun z m => h.es z (.tail _ m), by have := h.l; dsimp only at this ⊢; rw [List.length_cons] at this; rw [List.length_append]; show _ + 1 + _ ≤ _; omega⟩
section
variable {C : Cx} {f2 f3 : Addr} {x : Lx} {τ : St} {ln k : Nat} {cs : List Nat} {A : Around} {env : Env} {F : Nat}
theorem nc_some (G : Names C) (X : LexF C x.ct f2 f3) (h : x.H τ) (hF : τ[F]? = some (.cit x.L true)) (h1 : F ≠ x.L) (h2 : F ≠ x.IT) (c : Nat) (r : List Nat) : Nc C 2 F () (x.at τ ln (c :: r)) (some (sg c)) () (x.at τ (ln + nl c) r) :=
  .some ((Lx.at_o h1 h2).trans hF) (read_fn G X h) ((Lx.at_o h1 h2).trans hF) fun q => nomatch mkS_inj.mp (q : mkS [c] = mkS [])
theorem nc_stop (G : Names C) (X : LexF C x.ct f2 f3) (h : x.H τ) (hF : τ[F]? = some (.cit x.L true)) (h1 : F ≠ x.L) (h2 : F ≠ x.IT) : Nc C 2 F () (x.at τ ln []) none () ((x.at τ ln []).set F (.cit x.L false)) :=
  .stop ((Lx.at_o h1 h2).trans hF) (read_fn G X h) ((Lx.at_o h1 h2).trans hF)
variable {ρ : Rho} {p p' p'' p3 : Pos} {whole : Sem Value}
theorem gt_ws (hk : 3 ≤ k) (X : LexF C x.ct f2 f3) (h : x.H τ) {c : Nat} (h0 : ρ[0]? = some (some (.loc x.L))) (h3 : ρ[3]? = some (some (sg c))) :
    TB (.fn C A k fdGT env) ρ (isTrue (.Compare (.Name "ch" p) [.In] [.Attribute (.Name "self" p') "whitespace" p''] p3) env whole) (x.at τ ln cs) (isWs c) (x.at τ ln cs) :=
  TB.to (TB_cmp (tv 3 h3) (TE_attr (K := .fn C A k fdGT env) X.ws (tv 0 h0) h.at_L (by kernel_rfl)) cmp_ins rfl) (in1 [10, 9, 13, 32] c)
theorem word_run (G : Names C) (X : LexF C x.ct f2 f3) (h : x.H τ) (hF : τ[F]? = some (.cit x.L true)) (h1 : F ≠ x.L) (h2 : F ≠ x.IT) {body : List Stmt} {bad : Nat → Bool} {w : Nat} {rest : List Nat} (hw : bad w = true)
    (Hs : ∀ {c acc ln cs}, bad c = true → TS (.fn C A k fdGT env) ((gR x.L F acc).set 3 (some (sg c))) (execs body env) (x.at τ ln cs) (.ret (.str (mkS acc))) (gE x.L F) (x.at τ ln cs))
    (He : ∀ {c acc ln r}, acc.length ≤ 10000000 → TS (.fn C A k fdGT env) ((gR x.L F acc).set 3 (some (sg 92))) (execs body env) (x.at τ ln (c :: r)) .next (gR x.L F (acc ++ [c])) (x.at τ (ln + nl c) r))
    (Hp : ∀ {c acc ln cs}, bad c = false → c ≠ 92 → acc.length ≤ 10000000 → TS (.fn C A k fdGT env) ((gR x.L F acc).set 3 (some (sg c))) (execs body env) (x.at τ ln cs) .next (gR x.L F (acc ++ [c])) (x.at τ ln cs))
    (es : List (Bool × Nat)) (acc : List Nat) (ln : Nat) (hb : GS.P ⟨es, acc, ln⟩ bad) :
    Run (.fn C A k fdGT env) (Nc C 2 F) (.Name "ch" p) body [] es.length () (gR x.L F acc) (x.at τ ln (encW es ++ w :: rest)) (.ret (.str (mkS (acc ++ es.map (·.2))))) (gE x.L F) (x.at τ (ln + nls (encW es ++ [w])) rest) := by
  refine Run.wf (P := fun b : GS => b.P bad) (m := fun b => b.es.length) (i := fun u0 => ()) (R := fun b => gR x.L F b.acc) (S := fun b => x.at τ b.ln (encW b.es ++ w :: rest)) (F := fun b => ⟨.ret (.str (mkS (b.acc ++ b.es.map (·.2)))), gE x.L F, x.at τ (b.ln + nls (encW b.es ++ [w])) rest⟩) (fun b hb => ?_) es.length ⟨es, acc, ln⟩ hb (Nat.le_refl _)
  obtain ⟨es, acc, ln⟩ := b
  have hl : acc.length ≤ 10000000 := by have := hb.l; dsimp only at this; omega
  cases es with
  | nil => exact .ret () _ _ _ _ (by show Fl.ret _ = Fl.ret _; rw [List.map_nil, List.append_nil]) (nc_some G X h hF h1 h2 w rest) (.v (i := 3) rfl rfl) (Hs hw)
  | cons e es =>
    obtain ⟨b, c⟩ := e
    have hf : ∀ l, End.mk (.ret (.str (mkS (acc ++ [c] ++ es.map (·.2))))) (gE x.L F) (x.at τ (ln + nls l + nls (encW es ++ [w])) rest) = ⟨.ret (.str (mkS (acc ++ c :: es.map (·.2)))), gE x.L F, x.at τ (ln + nls (l ++ encW es ++ [w])) rest⟩ := fun l => by
      rw [List.append_assoc, List.append_assoc, nls_app l, Nat.add_assoc]; rfl
    cases b with
    | true =>
      exact .next ⟨es, acc ++ [c], ln + nls [92, c]⟩ _ _ _ (hb.cons _) (Nat.lt_succ_self _) (hf [92, c]) (nc_some G X h hF h1 h2 92 _) (.v (i := 3) rfl rfl) _ (.inl rfl) ((He (c := c) (ln := ln + nl 92) (r := encW es ++ w :: rest) hl).st (congrArg (x.at τ · _) (Nat.add_assoc ..)))
    | false =>
      have q := hb.es (false, c) (.head _) rfl
      exact .next ⟨es, acc ++ [c], ln + nls [c]⟩ _ _ _ (hb.cons _) (Nat.lt_succ_self _) (hf [c]) (nc_some G X h hF h1 h2 c _) (.v (i := 3) rfl rfl) _ (.inl rfl) (Hp q.1 q.2 hl)
end
end Mine
end
section
open PySem PySem.W PyProof.Rows
namespace Mine
section
variable {C : Cx} {f2 f3 : Addr} {x : Lx} {τ σ : St} {ln k : Nat} {cs : List Nat} {A : Around} {env : Env} {F : Nat} {ρ : Rho} {p p' p'' : Pos}
theorem Lx.no_rd : kget (x.fs ln) "_read_char" = none := by kernel_rfl
theorem TS.pre {K : Ctx} {ρ ρ' : Rho} {σ σ' : St} {fl : Fl} {u : Sem Flow} (i : Nat) (h : TS K (ρ.set i none) u σ fl ρ' σ') (hi : K.once.contains i = false := by rfl) : TS K ρ u σ fl ρ' σ' := fun u0 u0 p => h ⟨p.o, p.I, p.V.drop hi⟩
structure PW where
  pre : List Nat
  ln : Nat
theorem skip_run (G : Names C) (X : LexF C x.ct f2 f3) (h : x.H τ) (hF : τ[F]? = some (.cit x.L true)) (h1 : F ≠ x.L) (h2 : F ≠ x.IT) {body : List Stmt} {fl : Fl} {ρ' : Rho} {σ' : Nat → St} {cs : List Nat}
    (Hs : ∀ {c ln cs}, isWs c = true → TS (.fn C A k fdGT env) ((gR x.L F []).set 3 (some (sg c))) (execs body env) (x.at τ ln cs) .cont (gR x.L F []) (x.at τ ln cs))
    (H : ∀ ln, Turn (.fn C A k fdGT env) (Nc C 2 F) (.Name "ch" p) body [] (fun b : PW => ∀ c ∈ b.pre, isWs c = true) (fun b => b.pre.length) (fun u0 => ()) (fun u0 => gR x.L F []) (fun b => x.at τ b.ln (b.pre ++ cs)) (fun b => ⟨fl, ρ', σ' (b.ln + nls b.pre)⟩) ⟨[], ln⟩)
    (pre : List Nat) (ln : Nat) (hp : ∀ c ∈ pre, isWs c = true) : Run (.fn C A k fdGT env) (Nc C 2 F) (.Name "ch" p) body [] pre.length () (gR x.L F []) (x.at τ ln (pre ++ cs)) fl ρ' (σ' (ln + nls pre)) := by
  refine Run.wf (P := fun b : PW => ∀ c ∈ b.pre, isWs c = true) (m := fun b => b.pre.length) (i := fun u0 => ()) (R := fun u0 => gR x.L F []) (S := fun b => x.at τ b.ln (b.pre ++ cs)) (F := fun b => ⟨fl, ρ', σ' (b.ln + nls b.pre)⟩) (fun b hb => ?_) pre.length ⟨pre, ln⟩ hp (Nat.le_refl _)
  obtain ⟨pre, ln⟩ := b
  cases pre with
  | nil => exact H ln
  | cons c pre => exact .next ⟨pre, ln + nl c⟩ _ _ _ (fun z m => hb z (.tail _ m)) (Nat.lt_succ_self _) (congrArg (End.mk fl ρ' <| σ' ·) (Nat.add_assoc ..)) (nc_some G X h hF h1 h2 c _) (.v (i := 3) rfl rfl) _ (.inr rfl) (Hs (hb c (.head _)))
noncomputable def forB (s : Stmt) : List Stmt := (prt s).b
noncomputable def gtB : List Stmt := forB ((pM 5 2).body.getD 3 (.Pass default))
theorem gtB_ws (X : LexF C x.ct f2 f3) (h : x.H τ) {c : Nat} (hk : 3 ≤ k) (hw : isWs c = true) : TS (.fn C A k fdGT env) ((gR x.L F []).set 3 (some (sg c))) (execs gtB env) (x.at τ ln cs) .cont (gR x.L F []) (x.at τ ln cs) :=
  TS.fgt [3] (TS_stop (TS_if_t (TB.to (gt_ws hk X h rfl rfl) hw) (TS_stop TS_cont fun q => nomatch q)) fun q => nomatch q)
theorem bare_ok {w : Nat} (h : ¬ w % 4 < 2) {word : List Nat} {p : Nat} (hz : word.length ≤ 1000) {acc : List Nat} (ha : acc.length ≤ 1) (ln : Nat) : GS.P ⟨escL w word p, acc, ln⟩ isWs :=
  ⟨fun e m hf => by
    have := escL_mem w word p e m hf
    rw [show markedL w = [92, 10, 9, 13, 32] from if_neg h, List.contains_cons, Bool.or_eq_false_iff] at this
    exact ⟨this.2, beq_eq_false_iff_ne.mp this.1⟩, by show acc.length + (escL w word p).length ≤ _; rw [escL_len]; omega⟩
theorem quot_ok {w : Nat} (h : w % 4 < 2) {word : List Nat} (hz : word.length ≤ 1000) (ln : Nat) : GS.P ⟨escL w word 0, [], ln⟩ (· == 34) :=
  ⟨fun e m hf => by
    have := escL_mem w word 0 e m hf
    rw [show markedL w = [92, 34] from if_pos h, List.contains_cons, Bool.or_eq_false_iff, List.contains_cons, Bool.or_eq_false_iff] at this
    exact ⟨this.2.1, beq_eq_false_iff_ne.mp this.1⟩, by rw [escL_len]; show 0 + _ ≤ _; omega⟩
noncomputable def bodyOf (s : Stmt) : List Stmt := (prt s).b
noncomputable def elseOf (s : Stmt) : List Stmt := (prt s).o
noncomputable def gtQ : List Stmt := forB ((bodyOf (gtB.getD 1 (.Pass default))).getD 0 (.Pass default))
noncomputable def gtW : List Stmt := forB ((elseOf (gtB.getD 1 (.Pass default))).getD 2 (.Pass default))
theorem cat_le {acc : List Nat} {c : Nat} (hl : acc.length ≤ 10000000) : acc.length + [c].length ≤ 16777216 := Nat.le_trans (Nat.add_le_add_right hl 1) (Nat.le_of_ble_eq_true rfl)
section
variable {c : Nat} {acc r : List Nat}
theorem gq_s (hc : (c == 34) = true) : TS (.fn C A k fdGT env) ((gR x.L F acc).set 3 (some (sg c))) (execs gtQ env) (x.at τ ln cs) (.ret (.str (mkS acc))) (gE x.L F) (x.at τ ln cs) :=
  TS.fgt [1, 3] (TS_stop (TS_if_t (TB.to (TB_cmp (tv 3 rfl) TE_str cmp_eqs rfl) ((eq1 c 34).trans hc)) (TS_stop (TS_ret (tv 1 rfl)) (fun q => nomatch q))) (fun q => nomatch q))
theorem gq_e (G : Names C) (X : LexF C x.ct f2 f3) (h : x.H τ) (hk : 3 ≤ k) (hl : acc.length ≤ 10000000) : TS (.fn C A k fdGT env) ((gR x.L F acc).set 3 (some (sg 92))) (execs gtQ env) (x.at τ ln (c :: r)) .next (gR x.L F (acc ++ [c])) (x.at τ (ln + nl c) r) :=
  TS.fgt [3] (TS_cons (TS_if_f (TB.to (TB_cmp (tv 3 rfl) TE_str cmp_eqs rfl) (eq1 92 34)) (TS_cons (TS_if_t (TB.to (TB_cmp (tv 3 rfl) TE_str cmp_eqs rfl) (eq1 92 92)) (TS_cons (TS_asg (i := 3) (TE_mcall (read_fn G X h) (Nat.le_of_succ_le hk) X.rf X.rd.isFn rfl (tv 0 rfl) h.at_L Lx.no_rd an) rfl rfl rfl) TS_nil)) TS_nil))
        (TS_cons (TS_aug (i := 1) (by kernel_rfl) rfl (tv 3 rfl) (ibin_cat (a := acc) (b := [c]) (cat_le hl)) rfl) TS_nil))
theorem gq_p (hc : (c == 34) = false) (h92 : c ≠ 92) (hl : acc.length ≤ 10000000) : TS (.fn C A k fdGT env) ((gR x.L F acc).set 3 (some (sg c))) (execs gtQ env) (x.at τ ln cs) .next (gR x.L F (acc ++ [c])) (x.at τ ln cs) :=
  TS.fgt [3] (TS_cons (TS_if_f (TB.to (TB_cmp (tv 3 rfl) TE_str cmp_eqs rfl) ((eq1 c 34).trans hc)) (TS_cons (TS_if_f (TB.to (TB_cmp (tv 3 rfl) TE_str cmp_eqs rfl) ((eq1 c 92).trans (beq_eq_false_iff_ne.mpr h92))) TS_nil) TS_nil))
        (TS_cons (TS_aug (i := 1) (by kernel_rfl) rfl (tv 3 rfl) (ibin_cat (a := acc) (b := [c]) (cat_le hl)) rfl) TS_nil))
theorem gb_s (X : LexF C x.ct f2 f3) (h : x.H τ) (hk : 3 ≤ k) (hc : isWs c = true) : TS (.fn C A k fdGT env) ((gR x.L F acc).set 3 (some (sg c))) (execs gtW env) (x.at τ ln cs) (.ret (.str (mkS acc))) (gE x.L F) (x.at τ ln cs) :=
  TS.fgt [1, 3] (TS_stop (TS_if_t (TB.to (gt_ws hk X h rfl rfl) hc) (TS_stop (TS_ret (tv 1 rfl)) (fun q => nomatch q))) (fun q => nomatch q))
theorem gb_e (G : Names C) (X : LexF C x.ct f2 f3) (h : x.H τ) (hk : 3 ≤ k) (hl : acc.length ≤ 10000000) : TS (.fn C A k fdGT env) ((gR x.L F acc).set 3 (some (sg 92))) (execs gtW env) (x.at τ ln (c :: r)) .next (gR x.L F (acc ++ [c])) (x.at τ (ln + nl c) r) :=
  TS.fgt [3] (TS_cons (TS_if_f (TB.to (gt_ws hk X h rfl rfl) (show isWs 92 = false from rfl)) (TS_cons (TS_if_t (TB.to (TB_cmp (tv 3 rfl) TE_str cmp_eqs rfl) (eq1 92 92)) (TS_cons (TS_asg (i := 3) (TE_mcall (read_fn G X h) (Nat.le_of_succ_le hk) X.rf X.rd.isFn rfl (tv 0 rfl) h.at_L Lx.no_rd an) rfl rfl rfl) TS_nil)) TS_nil))
        (TS_cons (TS_aug (i := 1) (by kernel_rfl) rfl (tv 3 rfl) (ibin_cat (a := acc) (b := [c]) (cat_le hl)) rfl) TS_nil))
theorem gb_p (X : LexF C x.ct f2 f3) (h : x.H τ) (hk : 3 ≤ k) (hc : isWs c = false) (h92 : c ≠ 92) (hl : acc.length ≤ 10000000) : TS (.fn C A k fdGT env) ((gR x.L F acc).set 3 (some (sg c))) (execs gtW env) (x.at τ ln cs) .next (gR x.L F (acc ++ [c])) (x.at τ ln cs) :=
  TS.fgt [3] (TS_cons (TS_if_f (TB.to (gt_ws hk X h rfl rfl) hc) (TS_cons (TS_if_f (TB.to (TB_cmp (tv 3 rfl) TE_str cmp_eqs rfl) ((eq1 c 92).trans (beq_eq_false_iff_ne.mpr h92))) TS_nil) TS_nil))
        (TS_cons (TS_aug (i := 1) (by kernel_rfl) rfl (tv 3 rfl) (ibin_cat (a := acc) (b := [c]) (cat_le hl)) rfl) TS_nil))
end
section
variable (G : Names C) (X : LexF C x.ct f2 f3) (h : x.H τ) (hF : τ[F]? = some (.cit x.L true)) (h1 : F ≠ x.L) (h2 : F ≠ x.IT) (hk : 3 ≤ k)
include G X h hF h1 h2 hk
theorem gt_q {word rest : List Nat} {w : Nat} (h4 : w % 4 < 2) (hwl : word.length ≤ 1000) (ln : Nat) :
    Run (.fn C A k fdGT env) (Nc C 2 F) (.Name "ch" p) gtQ [] (escL w word 0).length () (gR x.L F []) (x.at τ ln (encW (escL w word 0) ++ 34 :: rest)) (.ret (.str (mkS word))) (gE x.L F) (x.at τ (ln + nls (encW (escL w word 0) ++ [34])) rest) := by
  have run := word_run (p := p) (A := A) (env := env) (k := k) G X h hF h1 h2 (body := gtQ) (bad := (· == 34)) (w := 34) (rest := rest) rfl gq_s (gq_e G X h hk) gq_p (escL w word 0) [] ln (quot_ok h4 hwl _)
  rwa [List.nil_append, escL_snd] at run
theorem gt_b {word rest acc : List Nat} {w g i : Nat} (h4 : ¬ w % 4 < 2) (hg : isWs g = true) (hwl : word.length ≤ 1000) (ha : acc.length ≤ 1) (ln : Nat) :
    Run (.fn C A k fdGT env) (Nc C 2 F) (.Name "ch" p) gtW [] (escL w word i).length () (gR x.L F acc) (x.at τ ln (encW (escL w word i) ++ g :: rest)) (.ret (.str (mkS (acc ++ word)))) (gE x.L F) (x.at τ (ln + nls (encW (escL w word i) ++ [g])) rest) := by
  have run := word_run (p := p) (A := A) (env := env) (k := k) G X h hF h1 h2 (body := gtW) (bad := isWs) (w := g) (rest := rest) hg (gb_s X h hk) (gb_e G X h hk) (gb_p X h hk) (escL w word i) acc ln (bare_ok h4 hwl ha _)
  rwa [escL_snd] at run
theorem gt_turn {word rest : List Nat} {w : Nat} (hw0 : word ≠ []) (hwl : word.length ≤ 1000) (ln : Nat) :
    Turn (.fn C A k fdGT env) (Nc C 2 F) (.Name "ch" p) gtB [] (fun b : PW => ∀ c ∈ b.pre, isWs c = true) (fun b => b.pre.length) (fun u0 => ()) (fun u0 => gR x.L F []) (fun b => x.at τ b.ln (b.pre ++ (spell word w ++ rest))) (fun b => ⟨.ret (.str (mkS word)), gE x.L F, x.at τ (b.ln + nls b.pre + nls (took word w)) (left w ++ rest)⟩) ⟨[], ln⟩ := by
  unfold spell took left
  by_cases h4 : w % 4 < 2
  · rw [if_pos h4, if_pos h4, if_pos h4, show (34 :: (encW (escL w word 0) ++ 34 :: gapL w)) ++ rest = 34 :: (encW (escL w word 0) ++ 34 :: (gapL w ++ rest)) from congrArg (34 :: ·) (List.append_assoc ..)]
    refine .ret () _ _ _ _ rfl (nc_some G X h hF h1 h2 34 _) (.v (i := 3) rfl rfl) (TS.st (σ₁ := x.at τ (ln + nl 34 + nls (encW (escL w word 0) ++ [34])) (gapL w ++ rest)) ?_ (congrArg (x.at τ · _) (Nat.add_assoc ..)))
    exact TS_cons (TS_if_f (TB.to (gt_ws hk X h rfl rfl) (show isWs 34 = false from rfl)) TS_nil) (TS_stop (TS_if_t (TB.to (TB_cmp (tv 3 rfl) TE_str cmp_eqs rfl) (eq1 34 34)) (TS.pre 3 (TS_stop (TS_forc X.rd.isFn hk (tv 2 rfl) ((Lx.at_o h1 h2).trans hF) (.inl rfl)
      (gt_q G X h hF h1 h2 hk h4 hwl _)) (fun q => nomatch q)))) (fun q => nomatch q))
  · rw [if_neg h4, if_neg h4, if_neg h4]
    obtain ⟨g, gs, hg⟩ := gapL_ne h4
    have hgw : isWs g = true := gapL_ws w g (by rw [hg]; exact .head _)
    cases word with
    | nil => exact absurd rfl hw0
    | cons c word =>
      have hwl : word.length ≤ 1000 := Nat.le_of_succ_le hwl
      have q := (bare_ok (p := 0) (acc := []) h4 (word := [c]) (Nat.le_of_ble_eq_true rfl) (Nat.zero_le _) 0).es (isEsc (markedL w) w 0 c, c) (.head _)
      have q34 : isEsc (markedL w) w 0 c = false → (c == 34) = false := fun e => by
        have := (Bool.or_eq_false_iff.mp (Bool.or_eq_false_iff.mp e).2).2
        rwa [show ((0 : Nat) == 0) = true from rfl, Bool.and_true] at this
      rw [hg, show encW (escL w (c :: word) 0) = encE (isEsc (markedL w) w 0 c, c) ++ encW (escL w word 1) from rfl, List.append_assoc, List.append_assoc]
      cases he : isEsc (markedL w) w 0 c with
      | true =>
        refine .ret () _ _ _ _ rfl (nc_some G X h hF h1 h2 92 _) (.v (i := 3) rfl rfl) (TS.st (σ₁ := x.at τ (ln + nl 92 + nl c + nls (encW (escL w word 1) ++ [g])) (gs ++ rest)) ?_ ?_)
        · exact TS_cons (TS_if_f (TB.to (gt_ws hk X h rfl rfl) (show isWs 92 = false from rfl)) TS_nil) (TS_stop (TS_if_f (TB.to (TB_cmp (tv 3 rfl) TE_str cmp_eqs rfl) (eq1 92 34))
            (TS_cons (TS_if_t (TB.to (TB_cmp (tv 3 rfl) TE_str cmp_eqs rfl) (eq1 92 92)) (TS_cons (TS_asg (i := 3) (TE_mcall (read_fn G X h) (Nat.le_of_succ_le hk) X.rf X.rd.isFn rfl (tv 0 rfl) h.at_L Lx.no_rd an) rfl rfl rfl) TS_nil))
            (TS_cons (TS_aug (i := 1) (by kernel_rfl) rfl (tv 3 rfl) (ibin_cat (a := []) (b := [c]) (cat_le (Nat.zero_le _))) rfl) (TS.pre 3 (TS_stop (TS_forc X.rd.isFn hk (tv 2 rfl) ((Lx.at_o h1 h2).trans hF) (.inl rfl)
              (gt_b G X h hF h1 h2 hk h4 hgw hwl (Nat.le_refl _) _)) (fun q => nomatch q)))))) (fun q => nomatch q))
        · exact congrArg (x.at τ · _) (by rw [Nat.add_assoc, Nat.add_assoc]; rfl)
      | false =>
        obtain ⟨q1, q2⟩ := q he
        refine .ret () _ _ _ _ rfl (nc_some G X h hF h1 h2 c _) (.v (i := 3) rfl rfl) (TS.st (σ₁ := x.at τ (ln + nl c + nls (encW (escL w word 1) ++ [g])) (gs ++ rest)) ?_ ?_)
        · exact TS_cons (TS_if_f (TB.to (gt_ws hk X h rfl rfl) q1) TS_nil) (TS_stop (TS_if_f (TB.to (TB_cmp (tv 3 rfl) TE_str cmp_eqs rfl) ((eq1 c 34).trans (q34 he)))
            (TS_cons (TS_if_f (TB.to (TB_cmp (tv 3 rfl) TE_str cmp_eqs rfl) ((eq1 c 92).trans (beq_eq_false_iff_ne.mpr q2))) TS_nil)
            (TS_cons (TS_aug (i := 1) (by kernel_rfl) rfl (tv 3 rfl) (ibin_cat (a := []) (b := [c]) (cat_le (Nat.zero_le _))) rfl) (TS.pre 3 (TS_stop (TS_forc X.rd.isFn hk (tv 2 rfl) ((Lx.at_o h1 h2).trans hF) (.inl rfl)
              (gt_b G X h hF h1 h2 hk h4 hgw hwl (Nat.le_refl _) _)) (fun q => nomatch q)))))) (fun q => nomatch q))
        · exact congrArg (x.at τ · _) (Nat.add_assoc ..)
end
end
end Mine
end
section
open PySem PySem.W PyProof.Rows
namespace Mine
section
variable {C : Cx} {f2 f3 : Addr} {x : Lx} {τ σ : St} {ln k : Nat} {cs pre : List Nat} {A : Around} {env : Env} {F : Nat} {ρ : Rho} {p p' p'' : Pos}
theorem get_push (G : Names C) (X : LexF C x.ct f2 f3) (t : D) (l : List D) (hL : σ[x.L]? = some (.ins x.ct (x.fs ln))) (hP : σ[x.Pb]? = some (.lst (t :: l))) (hl : l.length ≤ 100000) : FnTo C 1 f2 [.loc x.L] σ t (σ.set x.Pb (.lst l)) :=
  meth_to (f := fdGT) X.gt G.lim fdGT_ok (.cons 0 rfl rfl .nil) fun c => .ret fun A env hc =>
    TR_stop (TR_if_t (TB_value (TE_attr X.pb (tv 0 rfl) hL (by kernel_rfl)) (truth_lst (.o hP) (Nat.succ_le_of_lt (Nat.lt_of_le_of_lt hl (by decide)))))
      (TR_stop (TR_ret (TE_pop0 hP hP (Nat.le_trans hl (by decide)) (TE_attr X.pb (tv 0 rfl) hL (by kernel_rfl)) (a1 TE_int)))))
theorem get_read (G : Names C) (X : LexF C x.ct f2 f3) (h : x.H σ) (hp1 : x.Pb ≠ x.L) (hp2 : x.Pb ≠ x.IT) (hP : σ[x.Pb]? = some (.lst [])) {d : D} {σ₁ : St} {fl : Fl} {ρ' : Rho} {n : Nat}
    (r : ∀ {A env p}, Run (.fn C A 3 fdGT env) (Nc C 2 σ.length) (.Name "ch" p) gtB [] n () (gR x.L σ.length []) (x.at (σ ++ [.cit x.L true]) ln cs) fl ρ' σ₁) (hf : fl = .ret d ∨ fl = .next ∧ d = .str (mkS []) ∧ ρ' = gR x.L σ.length []) : FnTo C 4 f2 [.loc x.L] (x.at σ ln cs) d σ₁ :=
  meth_to (f := fdGT) X.gt G.lim fdGT_ok (.cons 0 rfl rfl .nil) fun c => .ret fun A env hc => by
    have hp : (x.at σ ln cs)[x.Pb]? = some (.lst []) := (Lx.at_o hp1 hp2).trans hP
    refine TR_cons (TS_if_f (TB.to (TB_value (TE_attr X.pb (tv 0 rfl) h.at_L (by kernel_rfl)) (truth_lst (.o hp) (Nat.zero_le _))) rfl) TS_nil) ?_
    refine TR_cons (TS_asg (i := 1) TE_str rfl rfl rfl) ?_
    refine TR_cons (TS_asg (i := 2) ((TE_citer G.iter (by kernel_rfl) X.rb (tv 0 rfl) h.at_L Lx.no_rd).to ⟨congrArg D.loc Lx.len, h.app.symm⟩) rfl rfl rfl) ?_
    have hF : (x.at (σ ++ [.cit x.L true]) ln cs)[σ.length]? = some (.cit x.L true) := by rw [h.app]; exact Lx.len (x := x) (τ := σ) ▸ at_len
    rcases hf with rfl | ⟨rfl, rfl, rfl⟩
    · exact TR_stop (TR_of (TS_forc X.rd.isFn (Nat.le_refl _) (tv 2 rfl) hF (.inl rfl) r))
    · exact TR_cons (TS_forc X.rd.isFn (Nat.le_refl _) (tv 2 rfl) hF (.inl rfl) r) (TR_stop (TR_ret (tv 1 rfl)))
theorem get_word (G : Names C) (X : LexF C x.ct f2 f3) (h : x.H σ) (hp1 : x.Pb ≠ x.L) (hp2 : x.Pb ≠ x.IT) (hP : σ[x.Pb]? = some (.lst [])) (hpre : ∀ c ∈ pre, isWs c = true) {word rest : List Nat} {w : Nat} (hw0 : word ≠ []) (hwl : word.length ≤ 1000) :
    FnTo C 4 f2 [.loc x.L] (x.at σ ln (pre ++ (spell word w ++ rest))) (.str (mkS word)) (x.at σ (ln + nls pre + nls (took word w)) (left w ++ rest) ++ [.cit x.L true]) := by
  rw [← h.app]
  have n1 : σ.length ≠ x.L := (Nat.ne_of_lt h.L).symm
  have n2 : σ.length ≠ x.IT := (Nat.ne_of_lt h.I).symm
  exact get_read G X h hp1 hp2 hP (fun {A env p} => skip_run G X h.more at_len n1 n2 (σ' := fun n => x.at (σ ++ [.cit x.L true]) (n + nls (took word w)) (left w ++ rest)) (gtB_ws X h.more (Nat.le_refl _)) (gt_turn G X h.more at_len n1 n2 (Nat.le_refl _) hw0 hwl) pre ln hpre) (.inl rfl)
theorem get_end (G : Names C) (X : LexF C x.ct f2 f3) (h : x.H σ) (hp1 : x.Pb ≠ x.L) (hp2 : x.Pb ≠ x.IT) (hP : σ[x.Pb]? = some (.lst [])) (hpre : ∀ c ∈ pre, isWs c = true) :
    FnTo C 4 f2 [.loc x.L] (x.at σ ln (pre ++ [])) (.str (mkS [])) (x.at σ (ln + nls pre) [] ++ [.cit x.L false]) := by
  have n1 : σ.length ≠ x.L := (Nat.ne_of_lt h.L).symm
  have n2 : σ.length ≠ x.IT := (Nat.ne_of_lt h.I).symm
  have e : ∀ n, (x.at (σ ++ [.cit x.L true]) n []).set σ.length (.cit x.L false) = x.at σ n [] ++ [.cit x.L false] := fun n => by
    rw [h.app]; exact Lx.len (x := x) (τ := σ) ▸ set_len
  exact get_read G X h hp1 hp2 hP (fun {A env p} => skip_run G X h.more at_len n1 n2 (σ' := fun n => x.at σ n [] ++ [.cit x.L false]) (gtB_ws X h.more (Nat.le_refl _)) (fun ln => .done () _ (e ln ▸ nc_stop G X h.more at_len n1 n2) TS_nil) pre ln hpre) (.inr ⟨rfl, rfl, rfl⟩)
end
end Mine
end
section
open PySem PySem.W PyProof.Rows
namespace Mine
section
variable {K : Ctx} {ρ : Rho} {σ σ₁ σ₂ σ' : St} {n : Nat} {d : D} {l : List D} {o : Expr} {apos pos : Pos} {args : List Expr} {x y : Str} {a b : D}
theorem TE_pop (hn : σ₁[n]? = some (.lst (l ++ [d]))) (hz : l.length ≤ 1000000) (ho : TE K ρ (eval o K.env) σ (.loc n) σ₁) (hf : (unstarred [] && decide (([] : List Expr).length < 30) && (apos.endLine == pos.line)) = true := by rfl) (hb : attributeBase o "pop" K.env (eval o K.env) = eval o K.env := by rfl) :
    TE K ρ (eval (.Call (.Attribute o "pop" apos) [] [] pos) K.env) σ d (σ₁.set n (.lst l)) :=
  TE_meth mf_pop (has_lst (.o hn)) ho an (fun p ro e' => by
    subst e'
    obtain ⟨aa, em, vs, k, z, r⟩ := ob_at p.I hn ro
    have hlen := r.length
    rw [List.length_append] at hlen
    obtain ⟨v, hv, rv⟩ := r.get (i := l.length) at_len
    have hsz : vs.toArray.size - 1 = l.length := by rw [List.size_toArray, hlen]; exact Nat.add_sub_cancel ..
    refine call_meets PySem.F.slot_list_pop ⟨_, z.is, rfl⟩ PySem.F.entry_list_pop (PySem.F.args_list_pop_1 _) (MeetsSeq.list_pop_last aa vs.toArray k v (by rw [hsz, List.getElem?_toArray]; exact hv) (by rw [sizeLine_is, List.size_toArray, hlen]; exact Nat.le_trans (Nat.add_le_add_right hz 1) (Nat.le_of_ble_eq_true rfl))) ⟨z.is, ?_⟩
    obtain ⟨k', e'⟩ := isL_update (ws := vs.take l.length) (f := fun xs => xs.eraseIdxIfInBounds (vs.toArray.size - 1)) z.is (by
      rw [List.eraseIdxIfInBounds_toArray, hsz, List.eraseIdx_eq_take_drop_succ, List.drop_eq_nil_of_le (by rw [hlen]; exact Nat.le_refl _), List.append_nil])
    have r2 := r.take l.length
    rw [List.take_left] at r2
    exact (lst_upd (t := _) p.I z em (Heap.SameBut.update ..) e' r2).out rv) hf hb
theorem mf_insert : MeFacts "list" "insert" "list.insert" := ⟨PySem.F.plainAttrs_list, PySem.F.slot_list_insert, PySem.F.type_list_insert⟩
theorem TE_insert {i : Nat} (hn1 : σ₁[n]? = some (.lst l)) (hn : σ₂[n]? = some (.lst l)) (hi : i ≤ l.length) (hz : l.length ≤ 1000000) (ho : TE K ρ (eval o K.env) σ (.loc n) σ₁) (hl : TA K ρ args pos σ₁ [.int (i : Nat), d] σ₂) (hf : (unstarred args && decide (args.length < 30) && (apos.endLine == pos.line)) = true := by rfl) (hb : attributeBase o "insert" K.env (eval o K.env) = eval o K.env := by rfl) :
    TE K ρ (eval (.Call (.Attribute o "insert" apos) args [] pos) K.env) σ .none (σ₂.set n (.lst (l.take i ++ d :: l.drop i))) :=
  TE_meth mf_insert (has_lst (.o hn1)) ho hl (fun p ro ⟨_, _, ⟨u, e2⟩, v, _, rv, e'⟩ => by
    subst e2 e'
    obtain ⟨aa, em, vs, k, z, r⟩ := ob_at p.I hn ro
    have hlen := r.length
    have hfit : Builtin.List.listFitsIndex (i : Int) = true := by
      unfold Builtin.List.listFitsIndex
      exact Bool.and_eq_true_iff.mpr ⟨decide_eq_true (Int.le_trans (by decide) (Int.natCast_nonneg i)), decide_eq_true (by have := Nat.le_trans hi hz; omega)⟩
    have hs : vs.toArray.size ≤ sizeLine := by rw [sizeLine_is, List.size_toArray, hlen]; exact Nat.le_trans hz (Nat.le_of_ble_eq_true rfl)
    obtain ⟨x, hx⟩ : ∃ x : Int, x = (i : Int) := ⟨_, rfl⟩
    rw [← hx] at hfit ⊢
    have hc : ¬ (!Builtin.List.listFitsIndex x) = true := by rw [hfit]; decide
    refine call_meets PySem.F.slot_list_insert ⟨_, z.is, rfl⟩ PySem.F.entry_list_insert (PySem.F.args_list_insert_3 _ _ _) (PySem.AutoSeq1.list_insert_list_int_val_1 aa vs.toArray k x u v hc hs) ⟨z.is, ?_⟩
    obtain ⟨k', e'⟩ := isL_update (ws := vs.take i ++ v :: vs.drop i) (f := fun xs => have k := if x < 0 then (x + ((xs.size : Nat) : Int)).toNat else min x.toNat xs.size; (xs.extract 0 k).push v ++ xs.extract k) z.is (by
      apply Array.toList_inj.mp
      show (((vs.toArray.extract 0 (if x < 0 then _ else min x.toNat vs.toArray.size)).push v) ++ vs.toArray.extract (if x < 0 then _ else min x.toNat vs.toArray.size)).toList = _
      rw [if_neg (Int.not_lt.mpr (hx ▸ Int.natCast_nonneg i)), hx, Int.toNat_natCast, List.size_toArray, Nat.min_eq_left (by rw [hlen]; exact hi)]
      simp [List.take_of_length_le])
    exact (lst_upd (t := _) p.I z em (Heap.SameBut.update ..) e' ((r.take i).append (m := d :: l.drop i) ⟨v, _, rv, r.drop i⟩)).out (d := .none) rfl) hf hb
noncomputable def slS (x : Str) (i j k : Option Int) : Str := if (k.getD 1 == 1 && (Builtin.Str.strSliceIndices i j (k.getD 1) x.length).length == x.length) = true then x else ⟨((Builtin.Str.strSliceIndices i j (k.getD 1) x.length).filterMap (x.cps[·]?)).toArray⟩
theorem part_of {v : Value} {i : Option Int} (h : IsPart v i) : ∃ p : Option (Int × Tok), v = partValue p ∧ p.map (·.1) = i := by
  cases h with
  | none => exact ⟨none, rfl, rfl⟩
  | int => exact ⟨some (_, _), rfl, rfl⟩
theorem sl_str {i j k : Option Int} (h0 : (k.getD 1 == 0) = false) (hz : (slS x i j k).length ≤ 16777216) : SlOk σ (.str x) i j k (.str (slS x i j k)) := fun u0 u0 u0 u0 u0 u0 u0 u0 sa I ⟨t, e⟩ px py pz hs => by
  subst e
  obtain ⟨p, rfl, rfl⟩ := part_of px
  obtain ⟨q, rfl, rfl⟩ := part_of py
  obtain ⟨r, rfl, rfl⟩ := part_of pz
  refine ⟨_, _, F.slot_str_getitem.lookup, typeIs_str _ _ _, wpAny_getItem_str_slice (l := p) (u := q) (st := r) ⟨_, hs, rfl, rfl⟩ h0 ?_⟩
  unfold sliceMade slicePicked
  unfold slS at *
  split
  · next h => exact out_here I ⟨t, rfl⟩
  · next h => rw [if_neg h] at hz; exact ⟨by rw [sizeLine_is]; exact hz, out_str I _ _ _⟩
theorem idx_strN {l : List Nat} {c : Nat} (hz : l.length < 2 ^ 62) : IdxOk σ (.str (mkS (l ++ [c]))) (.int (-1)) (.str (mkS [c])) := fun u0 u0 u0 u0 u0 u0 I ⟨_, e⟩ ⟨_, e'⟩ => by
  subst e e'
  refine ⟨_, _, F.slot_str_getitem.lookup, typeIs_str _ _ _, PySem.P.getItem_str (by decide) ?_ ⟨_, _, rfl⟩⟩
  rw [mkS_len, List.length_append, show seqIndex? (-1) (l.length + [c].length) = some l.length by
    unfold seqIndex?
    rw [List.length_singleton]
    show (if (decide (0 ≤ (-1 + ((l.length + 1 : Nat) : Int))) && decide ((-1 + ((l.length + 1 : Nat) : Int)) < ((l.length + 1 : Nat) : Int))) = true then some (-1 + ((l.length + 1 : Nat) : Int)).toNat else none) = _
    rw [show (-1 + ((l.length + 1 : Nat) : Int)) = (l.length : Int) by omega, if_pos (Bool.and_eq_true_iff.mpr ⟨decide_eq_true (Int.natCast_nonneg _), decide_eq_true (by omega)⟩), Int.toNat_natCast]]
  show (l ++ [c]).toArray[l.length]? = some c
  rw [List.getElem?_toArray]; exact at_len
theorem mf_sindex : MeFacts "str" "index" "str.index" := ⟨PySem.F.plainAttrs_str, PySem.F.slot_str_index, PySem.F.type_str_index⟩
theorem TE_sindex {i : Nat} {r : List Nat} (h : Builtin.Str.occurrences x y 0 x.length 1 = i :: r) (ho : TE K ρ (eval o K.env) σ (.str x) σ₁) (hl : TA K ρ args pos σ₁ [.str y] σ₂) (hf : (unstarred args && decide (args.length < 30) && (apos.endLine == pos.line)) = true := by rfl) (hb : attributeBase o "index" K.env (eval o K.env) = eval o K.env := by rfl) :
    TE K ρ (eval (.Call (.Attribute o "index" apos) args [] pos) K.env) σ (.int (i : Nat)) σ₂ :=
  TE_meth mf_sindex has_str ho hl (fun p ⟨t, e⟩ ⟨_, _, ⟨u, e2⟩, e'⟩ => by
    cases e; cases e2; cases e'
    exact call_gives PySem.F.slot_str_index (typeIs_str _ _ _) PySem.F.entry_str_index (PySem.F.args_str_index_2 _ _) (gives_str_index x y t u i r h) (out_int p.I _ _ _)) hf hb
theorem mf_lindex : MeFacts "list" "index" "list.index" := ⟨PySem.F.plainAttrs_list, PySem.F.slot_list_index, PySem.F.type_list_index⟩
theorem TE_lindex {ss : List Str} {j : Nat} (hj : ss[j]? = some y) (hno : ∀ m, m < j → ss[m]? ≠ some y) (hs : j < 2 ^ 62) (i1 : IsL σ₁ a (ss.map .str)) (i2 : IsL σ₂ a (ss.map .str)) (ho : TE K ρ (eval o K.env) σ a σ₁) (hl : TA K ρ args pos σ₁ [.str y] σ₂) (hf : (unstarred args && decide (args.length < 30) && (apos.endLine == pos.line)) = true := by rfl) (hb : attributeBase o "index" K.env (eval o K.env) = eval o K.env := by rfl) :
    TE K ρ (eval (.Call (.Attribute o "index" apos) args [] pos) K.env) σ (.int (j : Nat)) σ₂ :=
  TE_meth mf_lindex (has_lst i1) ho hl (fun p ro ⟨_, _, ⟨u, e2⟩, e'⟩ => by
    subst e2 e'
    obtain ⟨u1, b, vs, n, z, r⟩ := i2.at p.I ro
    obtain ⟨ts, e1, e2⟩ := repL_strs r
    subst e1 e2
    obtain ⟨h1, hlt, h2, h3⟩ := strs_find (u := u) hj hno
    exact call_meets PySem.F.slot_list_index ⟨_, z.is, rfl⟩ PySem.F.entry_list_index (PySem.F.args_list_index_2 _ _) (MeetsSeq.list_index b (strValues ts).toArray n _ _ h1 j hlt (Int.lt_trans (Int.ofNat_lt.mpr hs) (by decide)) h2 h3) ⟨z.is, out_int p.I _ _ _⟩) hf hb
theorem cmp_nins : CmpOk σ .NotIn (.str x) (.str y) (!(!(Builtin.Str.occurrences y x 0 y.length 1).isEmpty)) := fun u0 u0 u0 u0 u0 u0 u0 I ⟨_, e⟩ ⟨_, e'⟩ => by subst e e'; exact PySem.P.notIn_str ⟨_⟩
theorem cmp_ninD {p : PyData} {ps : List PyData} (ra : Rd σ a p) (rb : Rd σ b (.list ps)) (h1 : PyData.canLayAll0 ps = true) (h2 : p.canLay0 = true) (hd : p.depth ≤ 8) : CmpOk σ .NotIn a b (!ps.any fun q => PyData.eqv q p) := fun u0 u0 u0 u0 u0 u0 u I r r' =>
  let ⟨_, x⟩ := ra I r; let ⟨_, y⟩ := rb I r'
  PySem.SeqAt.notIn_list_reads y x h1 h2 (Nat.lt_of_le_of_lt (Nat.add_le_add_left (Nat.le_trans (Nat.min_le_right _ _) hd) _) (by omega)) ⟨_⟩
end
end Mine
end
section
open PySem PySem.W PyProof.Rows
namespace Mine
theorem nx {b i j : Nat} (h : i ≠ j) : b + i ≠ b + j := fun q => h (Nat.add_left_cancel q)
structure ZAt (b : Addr) (h : Heap) (f a c : Value) (S1 S2 : Nat → Heap → Prop) (k : Nat) : Prop where
  z : IsZip h (b + 4) (b + 2) (b + 3) f
  t : IsPair h (b + 2) (.ref (b + 0)) (.ref (b + 1))
  o : IsPair h (b + 3) a c
  s1 : S1 k h
  s2 : S2 k h
section
variable {prog : Program} {wd : World} {A : Around} {E : Value → Shared → Prop} {s : Shared} {b : Addr} {n k : Nat} {P1 P2 : Nat → Value → Prop} {S1 S2 : Nat → Heap → Prop} {x0 y0 : Value}
theorem zipD_item {Q : Value → Shared → Prop} (D1 : Draws prog wd A (b + 0) [b + 0] n P1 S1) (D2 : Draws prog wd A (b + 1) [b + 1] n P2 S2) (hk : k < n) (Z : ZAt b s.heap .none x0 y0 S1 S2 k)
    (hQ : ∀ h' tk x y, P1 k x → P2 k y → ZAt b h' (rawInt s.heap.objs.size) x y S1 S2 (k + 1) → IsPair h' s.heap.objs.size x y → (∀ c o, (∀ i, i < 5 → i ≠ 2 → c ≠ b + i) → s.heap.get? c = some o → h'.get? c = some o) → Q (.ref s.heap.objs.size) { s with heap := h', toks := tk }) :
    wpAny (model prog wd) A (Builtin.«zip.__next__» ⟨[.ref (b + 4)], []⟩) (fun fin s' => ∃ v, fin = .done (.ret v) ∧ Q v s') E s := by
  obtain ⟨hz, hTI, hTO, h1, h2⟩ := Z
  show wpAny _ _ (field (.ref (b + 4)) 2 >>= _) _ _ _
  refine wpAny_bind (wpAny_field hz rfl (x := .bool false) rfl ?_)
  show wpAny _ _ (field (.ref (b + 4)) 3 >>= _) _ _ _
  refine wpAny_bind (wpAny_field hz rfl (x := .ref (b + 2)) rfl ?_)
  refine wpAny_bind (wpAny_seqItems hTI rfl ?_)
  show wpAny _ _ (Builtin.SmallTypes.ownedTupleIsFree (.ref (b + 4)) >>= _) _ _ _
  refine wpAny_bind ?_
  unfold Builtin.SmallTypes.ownedTupleIsFree
  refine wpAny_bind (wpAny_field hz rfl (x := .none) rfl (wpAny_pure ?_))
  simp only [if_true]
  refine wpAny_bind (wpAny_rule ?_)
  refine wpAny_bind (wpAny_field hz rfl (x := .ref (b + 3)) rfl ?_)
  refine wpAny_bind (wpAny_setField_rec hz (Nat.le_of_ble_eq_true rfl) fun h₁ hz₁ hs₁ => ?_)
  replace hz₁ : IsZip h₁ (b + 4) (b + 2) (b + 3) .ellipsis := hz₁
  refine wpAny_bind ?_
  simp only [List.zipIdx_cons, List.zipIdx_nil, List.forIn_cons, List.forIn_nil]
  refine wpAny_bind (wpAny_bind (wpAny_onRaise ?_))
  show wpAny _ _ (Builtin.SmallTypes.nextOf (.ref (b + 0)) >>= _) _ _ _
  have f1 : ∀ {i : Nat} {h h' : Heap} {k : Nat}, Heap.SameBut (b + i) h h' → i ≠ 0 → S1 k h → S1 k h' := fun {i} {h h' k} e ne q => D1.frame k h h' q fun c m o y => by cases List.mem_singleton.mp m; exact e.extBut _ _ (nx ne.symm) y
  have f2 : ∀ {i : Nat} {h h' : Heap} {k : Nat}, Heap.SameBut (b + i) h h' → i ≠ 1 → S2 k h → S2 k h' := fun {i} {h h' k} e ne q => D2.frame k h h' q fun c m o y => by cases List.mem_singleton.mp m; exact e.extBut _ _ (nx ne.symm) y
  refine wpAny_bind (D1.item k _ _ _ hk (f1 hs₁ (by decide) h1) fun x h₂ t₂ px h1₂ hs₂ => wpAny_pure ?_)
  have hTO₂ : IsPair h₂ (b + 3) x0 y0 := hs₂.extBut _ _ (nx (by decide)) (hs₁.extBut _ _ (nx (by decide)) hTO)
  refine wpAny_bind (wpAny_seqItems hTO₂ rfl ?_)
  refine wpAny_bind (wpAny_updateSeq_pair hTO₂ fun h₃ hTO₃ hs₃ => ?_)
  replace hTO₃ : IsPair h₃ (b + 3) x y0 := hTO₃
  refine wpAny_bind (wpAny_letGo (wpAny_pure ?_))
  refine wpAny_bind (wpAny_bind (wpAny_onRaise ?_))
  show wpAny _ _ (Builtin.SmallTypes.nextOf (.ref (b + 1)) >>= _) _ _ _
  refine wpAny_bind (D2.item k _ _ _ hk (f2 hs₃ (by decide) (f2 hs₂ (by decide) (f2 hs₁ (by decide) h2))) fun y h₄ t₄ py h2₄ hs₄ => wpAny_pure ?_)
  have hTO₄ : IsPair h₄ (b + 3) x y0 := hs₄.extBut _ _ (nx (by decide)) hTO₃
  refine wpAny_bind (wpAny_seqItems hTO₄ rfl ?_)
  refine wpAny_bind (wpAny_updateSeq_pair hTO₄ fun h₅ hTO₅ hs₅ => ?_)
  replace hTO₅ : IsPair h₅ (b + 3) x y := hTO₅
  refine wpAny_bind (wpAny_letGo (wpAny_pure (wpAny_pure ?_)))
  refine wpAny_bind (wpAny_seqItems hTO₅ rfl ?_)
  refine wpAny_bind (wpAny_newTuple ?_)
  have hsz : h₅.objs.size = s.heap.objs.size := by rw [hs₅.1, hs₄.1, hs₃.1, hs₂.1, hs₁.1]
  have up₅ : ∀ c o, c ≠ b + 4 → c ≠ b + 3 → c ≠ b + 0 → c ≠ b + 1 → s.heap.get? c = some o → h₅.get? c = some o := fun c o c1 c2 c3 c4 e => hs₅.extBut _ _ c2 (hs₄.extBut _ _ c4 (hs₃.extBut _ _ c2 (hs₂.extBut _ _ c3 (hs₁.extBut _ _ c1 e))))
  have hz₅ : IsZip h₅ (b + 4) (b + 2) (b + 3) .ellipsis := hs₅.extBut _ _ (nx (by decide)) (hs₄.extBut _ _ (nx (by decide)) (hs₃.extBut _ _ (nx (by decide)) (hs₂.extBut _ _ (nx (by decide)) hz₁)))
  have h1₅ := f1 hs₅ (by decide) (f1 hs₄ (by decide) (f1 hs₃ (by decide) h1₂))
  have h2₅ := f2 hs₅ (by decide) h2₄
  have hzlt : b + 4 < h₅.objs.size := Heap.lt_size hz₅
  show wpAny _ _ (Builtin.SmallTypes.ownedTupleHandOut (.ref (b + 4)) (.ref h₅.objs.size) >>= _) _ _ _
  refine wpAny_bind ?_
  unfold Builtin.SmallTypes.ownedTupleHandOut
  have hz₆ : IsZip (h₅.push { cls := .type "tuple", data := .seq #[x, y] }) (b + 4) (b + 2) (b + 3) .ellipsis := Heap.get?_push_of_some _ hz₅
  refine wpAny_bind (wpAny_setField_rec hz₆ (Nat.le_of_ble_eq_true rfl) fun h₇ hz₇ hs₇ => ?_)
  replace hz₇ : IsZip h₇ (b + 4) (b + 2) (b + 3) (rawInt h₅.objs.size) := hz₇
  refine wpAny_setField_rec hz₇ (Nat.le_of_ble_eq_true rfl) fun h₈ hz₈ hs₈ => ?_
  replace hz₈ : IsZip h₈ (b + 4) (b + 2) (b + 3) (rawInt h₅.objs.size) := hz₈
  have up : ∀ c o, c ≠ b + 4 → h₅.get? c = some o → h₈.get? c = some o := fun c o c1 e => hs₈.extBut _ _ c1 (hs₇.extBut _ _ c1 (Heap.get?_push_of_some _ e))
  have hT₈ : IsPair h₈ h₅.objs.size x y := hs₈.extBut _ _ (Nat.ne_of_gt hzlt) (hs₇.extBut _ _ (Nat.ne_of_gt hzlt) (Heap.get?_push_size _ rfl))
  rw [hsz] at hz₈ hT₈
  refine wpAny_pure ⟨_, rfl, ?_⟩
  show Q (.ref h₅.objs.size) _
  rw [hsz]
  exact hQ h₈ t₄ x y px py ⟨hz₈, up _ _ (nx (by decide)) (up₅ _ _ (nx (by decide)) (nx (by decide)) (nx (by decide)) (nx (by decide)) hTI), up _ _ (nx (by decide)) hTO₅,
    D1.frame _ _ _ h1₅ fun c m o e => by { cases List.mem_singleton.mp m; exact up _ _ (nx (by decide)) e }, D2.frame _ _ _ h2₅ fun c m o e => by { cases List.mem_singleton.mp m; exact up _ _ (nx (by decide)) e }⟩ hT₈
    fun c o q e => up c o (q 4 (by decide) (by decide)) (up₅ c o (q 4 (by decide) (by decide)) (q 3 (by decide) (by decide)) (q 0 (by decide) (by decide)) (q 1 (by decide) (by decide)) e)
theorem zipD_end {Q : Fin → Shared → Prop} (D1 : Draws prog wd A (b + 0) [b + 0] n P1 S1) (D2 : Draws prog wd A (b + 1) [b + 1] n P2 S2) (Z : ZAt b s.heap .none x0 y0 S1 S2 n)
    (hE : ∀ h' e, (∀ c o, (∀ i, i < 5 → i ≠ 2 → c ≠ b + i) → s.heap.get? c = some o → h'.get? c = some o) → (∃ o, h'.get? e = some o ∧ o.cls = .type "StopIteration") → E (.ref e) { s with heap := h' }) :
    wpAny (model prog wd) A (Builtin.«zip.__next__» ⟨[.ref (b + 4)], []⟩) Q E s := by
  obtain ⟨hz, hTI, hTO, h1, h2⟩ := Z
  show wpAny _ _ (field (.ref (b + 4)) 2 >>= _) _ _ _
  refine wpAny_bind (wpAny_field hz rfl (x := .bool false) rfl ?_)
  show wpAny _ _ (field (.ref (b + 4)) 3 >>= _) _ _ _
  refine wpAny_bind (wpAny_field hz rfl (x := .ref (b + 2)) rfl ?_)
  refine wpAny_bind (wpAny_seqItems hTI rfl ?_)
  show wpAny _ _ (Builtin.SmallTypes.ownedTupleIsFree (.ref (b + 4)) >>= _) _ _ _
  refine wpAny_bind ?_
  unfold Builtin.SmallTypes.ownedTupleIsFree
  refine wpAny_bind (wpAny_field hz rfl (x := .none) rfl (wpAny_pure ?_))
  simp only [if_true]
  refine wpAny_bind (wpAny_rule ?_)
  refine wpAny_bind (wpAny_field hz rfl (x := .ref (b + 3)) rfl ?_)
  refine wpAny_bind (wpAny_setField_rec hz (Nat.le_of_ble_eq_true rfl) fun h₁ hz₁ hs₁ => ?_)
  replace hz₁ : IsZip h₁ (b + 4) (b + 2) (b + 3) .ellipsis := hz₁
  refine wpAny_bind ?_
  simp only [List.zipIdx_cons, List.zipIdx_nil, List.forIn_cons, List.forIn_nil]
  refine wpAny_bind (wpAny_bind (wpAny_onRaise ?_))
  show wpAny _ _ (Builtin.SmallTypes.nextOf (.ref (b + 0)) >>= _) _ _ _
  refine wpAny_bind (D1.done _ _ _ (D1.frame _ _ _ h1 fun c m o y => by { cases List.mem_singleton.mp m; exact hs₁.extBut _ _ (nx (by decide)) y }) fun h₂ e hs₂ he => ?_)
  obtain ⟨oe, hoe, hce⟩ := he
  have hz₂ : IsZip h₂ (b + 4) (b + 2) (b + 3) .ellipsis := hs₂ _ _ (nx (by decide)) hz₁
  have hez : e ≠ b + 4 := fun x => by subst x; rw [hz₂] at hoe; cases hoe; exact absurd (show Value.type "zip" = .type "StopIteration" from hce) (by decide)
  exact wpAny_setField_rec hz₂ (Nat.le_of_ble_eq_true rfl) fun h₃ u0 hs₃ => hE h₃ e (fun c o q x => hs₃.extBut _ _ (q 4 (by decide) (by decide)) (hs₂ _ _ (q 0 (by decide) (by decide)) (hs₁.extBut _ _ (q 4 (by decide) (by decide)) x))) ⟨oe, hs₃.extBut _ _ hez hoe, hce⟩
end
end Mine
end
section
open PySem PySem.W PyProof.Rows
namespace Mine
inductive JZ (b : Addr) (S1 S2 : Nat → Heap → Prop) (ds l : List D) (w : W) : Prop
  | mk (k : Nat) (x y : Value) (o1 o2 : Obj) (Z : ZAt b w.s.heap .none x y S1 S2 k) (tg : ∀ i, i < 5 → w.tag (b + i) = .mu (b + 4)) (g1 : w.s.heap.get? (b + 0) = some o1) (g2 : w.s.heap.get? (b + 1) = some o2) (e : l = ds.drop k) (hk : k ≤ ds.length) : JZ b S1 S2 ds l w
theorem ZAt.move {b : Addr} {h h' : Heap} {f x y : Value} {S1 S2 : Nat → Heap → Prop} {k n : Nat} {P1 P2 : Nat → Value → Prop} {prog : Program} {wd : World} {A : Around} (D1 : Draws prog wd A (b + 0) [b + 0] n P1 S1) (D2 : Draws prog wd A (b + 1) [b + 1] n P2 S2) (Z : ZAt b h f x y S1 S2 k) (H : ∀ i, i < 4 → ∀ o, h.get? (b + i) = some o → h'.get? (b + i) = some o) {f' : Value} (hz : IsZip h' (b + 4) (b + 2) (b + 3) f') : ZAt b h' f' x y S1 S2 k :=
  ⟨hz, H 2 (by decide) _ Z.t, H 3 (by decide) _ Z.o, D1.frame _ _ _ Z.s1 fun c m o e => by { cases List.mem_singleton.mp m; exact H 0 (by decide) _ e }, D2.frame _ _ _ Z.s2 fun c m o e => by { cases List.mem_singleton.mp m; exact H 1 (by decide) _ e }⟩
section
variable {C : Cx} {A : Around} {w w' : W} {σ σ' : St} {E : Value → Shared → Prop} {ds : List D} {n : Nat} {P1 P2 : Nat → Value → Prop} {S1 S2 : Nat → Heap → Prop} {b : Addr}
theorem itr_zip {elts : List Expr} {kk : Nat} {pos : Pos} (D1 : Draws C.prog C.w A.in1 (b + 0) [b + 0] n P1 S1) (D2 : Draws C.prog C.w A.in1 (b + 1) [b + 1] n P2 S2) (hn : ds.length = n) (hP : ∀ (w : W) k d x y, ds[k]? = some d → P1 k x → P2 k y → ∃ p q, d = .tup [p, q] ∧ Rep C w p x ∧ Rep C w q y) :
    Itr C A (.Tuple elts kk pos) (.ref (b + 4)) (b + 4) (JZ b S1 S2 ds) Nl where
  stable := fun ⟨k, x0, y0, o1, o2, Z, tg, g1, g2, e, hk⟩ x nf => by
    have K := x.mu _ nf
    have K' : ∀ i, i < 5 → ∀ o, _ → At _ _ (b + i) o := fun i hi o q => K _ o ⟨tg i hi, q⟩
    exact ⟨k, x0, y0, o1, o2, Z.move D1 D2 (fun i hi o q => (K' i (Nat.lt_succ_of_lt hi) o q).is) (K' 4 (by decide) _ Z.z).is, fun i hi => by
      match i, hi with
      | 0, h => exact (K' 0 h _ g1).tag
      | 1, h => exact (K' 1 h _ g2).tag
      | 2, h => exact (K' 2 h _ Z.t).tag
      | 3, h => exact (K' 3 h _ Z.o).tag
      | 4, h => exact (K' 4 h _ Z.z).tag, (K' 0 (by decide) _ g1).is, (K' 1 (by decide) _ g2).is, e, hk⟩
  item := by
    rintro l σ w d l' σ' E I ⟨k, x0, y0, o1, o2, Z, tg, g1, g2, e, hk⟩ nl
    cases nl
    have hd : ds[k]? = some d := by rw [← List.head?_drop, ← e]; rfl
    have hl : l' = ds.drop (k + 1) := by rw [List.drop_add_one_eq_tail_drop, ← e]; rfl
    have hT : w.s.TypeIs (.ref (b + 4)) "zip" := ⟨_, Z.z, rfl⟩
    unfold pyNext
    refine wpAny_bind (wpAny_attempt (wpAny_callSpecial?_slot (name := Str.ofString "__next__") hT F.slot_zip_next (wpAny_call_entry F.slot_zip_next hT F.entry_zip_next (zipD_item D1 D2 (hn ▸ get_lt hd) Z fun h' tk x y px py Z' hT' up => wpAny_pure ⟨_, rfl, wpAny_letOwnedTupleGo_zip Z'.z fun h'' hz'' hs => ?_⟩) (F.args_zip_next_1 _))))
    have Z2 := Z'.move (h' := h'') D1 D2 (fun i hi o q => hs.extBut _ _ (nx (Nat.ne_of_lt hi)) q) hz''
    obtain ⟨o1', g1'⟩ := D1.live _ _ Z2.s1
    obtain ⟨o2', g2'⟩ := D2.live _ _ Z2.s2
    have hk' : ∀ c o, w.tag c ≠ .mu (b + 4) → w.s.heap.get? c = some o → h''.get? c = some o := fun c o nt q => hs.extBut _ _ (fun y => nt (y ▸ tg 4 (by decide))) (up c o (fun i hi u0 y => nt (y ▸ tg i hi)) q)
    have X : Step (· = b + 4) w (w.put [] .fz h'' tk []) := .priv hk'
    have ne2 : w.s.heap.objs.size ≠ b + 4 := fun q => (show At w (.mu (b + 4)) (b + 4) _ from ⟨tg 4 (by decide), Z.z⟩).ne q.symm
    obtain ⟨p, q, rfl, rp, rq⟩ := hP (w.put [] .fz h'' tk []) k d x y hd px py
    refine ⟨w.put [] .fz h'' tk [], X, I.priv hk' fun c q ⟨o, y⟩ => ?_, ⟨k + 1, x, y, o1', o2', Z2, tg, g1', g2', hl, get_lt hd⟩, rep_pair I X (hs.extBut _ _ ne2 hT') rp rq⟩
    by_cases q0 : c = b + 0
    · exact ⟨_, q0 ▸ g1'⟩
    by_cases q1 : c = b + 1
    · exact ⟨_, q1 ▸ g2'⟩
    by_cases q3 : c = b + 3
    · exact ⟨_, q3 ▸ Z2.o⟩
    by_cases q4 : c = b + 4
    · exact ⟨_, q4 ▸ Z2.z⟩
    exact ⟨o, hs.extBut _ _ q4 (up c o (fun i hi h2 => by
      match i, hi with
      | 0, _ => exact q0
      | 1, _ => exact q1
      | 2, _ => exact absurd rfl h2
      | 3, _ => exact q3
      | 4, _ => exact q4) y)⟩
  done := by
    rintro l σ w l' σ' E I ⟨k, x0, y0, o1, o2, Z, tg, g1, g2, e, hk⟩ nl
    cases nl
    have : k = n := hn ▸ Nat.le_antisymm hk (List.drop_eq_nil_iff.mp e.symm)
    subst this
    have hT : w.s.TypeIs (.ref (b + 4)) "zip" := ⟨_, Z.z, rfl⟩
    unfold pyNext
    refine wpAny_bind (wpAny_attempt (wpAny_callSpecial?_slot (name := Str.ofString "__next__") hT F.slot_zip_next (wpAny_call_entry F.slot_zip_next hT F.entry_zip_next (zipD_end D1 D2 Z fun h' e up he => ?_) (F.args_zip_next_1 _))))
    obtain ⟨o, ho, hc⟩ := he
    exact wpAny_bind (wpAny_isInstance (T := "StopIteration") (b := true) ⟨o, ho, hc⟩ isSubtype_stop (wpAny_pure ⟨rfl, w, h', w.s.toks, .refl _ _, I, fun c o nt q => up c o (fun i hi u0 y => nt (b + 4) (.head _) (y ▸ tg i hi)) q⟩))
  self := fun ⟨k, x0, y0, o1, o2, Z, _, _, _, _, _⟩ q => wpAny_pyIter_zip Z.z q
end
end Mine
end
section
open PySem PySem.W PyProof.Rows
namespace Mine
noncomputable abbrev strIt (x : Str) (t : Tok) : Obj := { cls := .type (strIterType x), data := .fields #[.str x t, .int 0 0] }
noncomputable abbrev zs1 (h : Heap) (x : Str) (t : Tok) : Heap := h.push (strIt x t)
noncomputable abbrev zs2 (h : Heap) (x y : Str) (t u : Tok) : Heap := (zs1 h x t).push (strIt y u)
noncomputable abbrev zs3 (h : Heap) (x y : Str) (t u : Tok) : Heap := (zs2 h x y t u).push { cls := .type "tuple", data := .seq #[.ref h.objs.size, .ref (zs1 h x t).objs.size] }
noncomputable abbrev zs4 (h : Heap) (x y : Str) (t u : Tok) : Heap := (zs3 h x y t u).push { cls := .type "tuple", data := .seq #[.none, .none] }
noncomputable abbrev zs5 (h : Heap) (x y : Str) (t u : Tok) : Heap := (zs4 h x y t u).push { cls := .type "zip", data := .fields #[.none, .bool false, .bool false, .ref (zs2 h x y t u).objs.size, .ref (zs3 h x y t u).objs.size] }
set_option maxHeartbeats 4000000 in
theorem meets_zip_newS (x y : Str) (t u : Tok) :
    Meets (Builtin.«zip.__new__» ⟨[.type "zip", .str x t, .str y u], []⟩) (fun u0 R s => R (.ok (.ret (.ref (zs4 s.heap x y t u).objs.size))) { s with heap := zs5 s.heap x y t u }) :=
  .of_wp fun prog w A R s h => by
    obtain ⟨hp, g, d, tk, os⟩ := s
    have hsub := sub_zip
    wp_walk using wpAny_pyIter_strU
    exact ⟨_, rfl, h⟩
noncomputable def strP (x : Str) (i : Nat) (v : Value) : Prop := ∃ c u, x.cps[i]? = some c ∧ v = .str ⟨#[c]⟩ u
theorem str_draws {prog : Program} {w : World} {A : Around} (hh : A.handled = none) (it : Addr) (x : Str) (t : Tok) : Draws prog w A it [it] x.cps.size (strP x) (fun i h => h.IsStrIter it (strIterType x) x t i) := by
  cases ha : x.cps.all (· < 128)
  · rw [show strIterType x = "str_iterator" by unfold strIterType; rw [ha]; rfl]; exact Draws.strWide hh it x t
  · rw [show strIterType x = "str_ascii_iterator" by unfold strIterType; rw [ha]; rfl]; exact Draws.strAscii hh it x t
noncomputable def zipD (a b : List Nat) : List D := (a.zip b).map fun p => .tup [.str (mkS [p.1]), .str (mkS [p.2])]
theorem rep_of_strP {C : Cx} {w : W} {a : List Nat} {k c : Nat} {v : Value} (h : strP (mkS a) k v) (hc : a[k]? = some c) : Rep C w (.str (mkS [c])) v := by
  obtain ⟨c', u, e, rfl⟩ := h
  cases (List.getElem?_toArray.symm.trans e).symm.trans hc
  exact ⟨u, rfl⟩
theorem zip_strs {C : Cx} {A : Around} {w : W} {σ : St} {E : Value → Shared → Prop} {elts : List Expr} {kk : Nat} {pos : Pos} {a c : List Nat} {t u : Tok} (hl : a.length = c.length) (hh : A.handled = none) (I : Inv C σ w) :
    wpAny C.M A (PySem.call (.type "zip") [.str (mkS a) t, .str (mkS c) u]) (fun x s1 => wpAny C.M A (pyIter x) (IterO C A (.Tuple elts kk pos) Nl (zipD a c) w σ) E s1) E w.s := by
  refine callType_new F.called_zip (by decide) (F.typeCall_zip_2 _ _) (F.newCall_zip_2 _ _) (fun obj => F.args_object_init_3 obj _ _) F.entry_zip_new (meets_zip_newS (mkS a) (mkS c) t u) ?_
  have z1 : (zs1 w.s.heap (mkS a) t).objs.size = w.s.heap.objs.size + 1 := Heap.size_push ..
  have z2 : (zs2 w.s.heap (mkS a) (mkS c) t u).objs.size = w.s.heap.objs.size + 2 := (Heap.size_push ..).trans (congrArg (· + 1) z1)
  have z3 : (zs3 w.s.heap (mkS a) (mkS c) t u).objs.size = w.s.heap.objs.size + 3 := (Heap.size_push ..).trans (congrArg (· + 1) z2)
  have z4 : (zs4 w.s.heap (mkS a) (mkS c) t u).objs.size = w.s.heap.objs.size + 4 := (Heap.size_push ..).trans (congrArg (· + 1) z3)
  have g5 : (zs5 w.s.heap (mkS a) (mkS c) t u).get? (zs4 w.s.heap (mkS a) (mkS c) t u).objs.size = some _ := Heap.get?_push_size _ rfl
  have g4 : (zs5 w.s.heap (mkS a) (mkS c) t u).get? (zs3 w.s.heap (mkS a) (mkS c) t u).objs.size = some _ := Heap.get?_push_of_some _ (Heap.get?_push_size _ rfl)
  have g3 : (zs5 w.s.heap (mkS a) (mkS c) t u).get? (zs2 w.s.heap (mkS a) (mkS c) t u).objs.size = some _ := Heap.get?_push_of_some _ (Heap.get?_push_of_some _ (Heap.get?_push_size _ rfl))
  have g2 : (zs5 w.s.heap (mkS a) (mkS c) t u).get? (zs1 w.s.heap (mkS a) t).objs.size = some (strIt (mkS c) u) := Heap.get?_push_of_some _ (Heap.get?_push_of_some _ (Heap.get?_push_of_some _ (Heap.get?_push_size _ rfl)))
  have g1 : (zs5 w.s.heap (mkS a) (mkS c) t u).get? (w.s.heap.objs.size + 0) = some (strIt (mkS a) t) := Heap.get?_push_of_some _ (Heap.get?_push_of_some _ (Heap.get?_push_of_some _ (Heap.get?_push_of_some _ (Heap.get?_push_size _ rfl))))
  have hk : ∀ b o, w.s.heap.get? b = some o → (zs5 w.s.heap (mkS a) (mkS c) t u).get? b = some o := fun b o x => Heap.get?_push_of_some _ (Heap.get?_push_of_some _ (Heap.get?_push_of_some _ (Heap.get?_push_of_some _ (Heap.get?_push_of_some _ x))))
  show _ ∧ _
  rw [z2, z3, z4] at g5
  rw [z1, z2] at g3
  rw [z3] at g4
  rw [z1] at g2
  rw [z4]
  refine ⟨⟨_, g5, rfl⟩, wpAny_pyIter_zip g5 ?_⟩
  generalize zs5 w.s.heap (mkS a) (mkS c) t u = h' at *
  have f : ∀ i, w.s.heap.get? (w.s.heap.objs.size + i) = none := fun i => dead_of fun ⟨o, q⟩ => Nat.not_lt.mpr (Nat.le_add_right _ i) (Heap.lt_size q)
  clear z1 z2 z3 z4
  generalize w.s.heap.objs.size = b at *
  have hA : ∀ j ∈ (List.range 5).map (b + ·), w.s.heap.get? j = none := fun j m => by obtain ⟨i, u1, rfl⟩ := List.mem_map.mp m; exact f i
  have mem : ∀ i, i < 5 → b + i ∈ (List.range 5).map (b + ·) := fun i hi => List.mem_map.mpr ⟨i, List.mem_range.mpr hi, rfl⟩
  have ch : Chg NoX w (w.put ((List.range 5).map (b + ·)) (.mu (b + 4)) h' w.s.toks []) := .put fun t u0 b o z => ⟨fun m => z.alive.no (hA b m), hk b o z.is⟩
  have x := ch.step (F := NoF) id fun u0 => id
  have te : ∀ i, i < 5 → (w.put ((List.range 5).map (b + ·)) (.mu (b + 4)) h' w.s.toks []).tag (b + i) = .mu (b + 4) := fun i hi => if_pos (mem i hi)
  have I2 := I.put ch id (fun u0 => id) (fun j m => by
    obtain ⟨i, m', rfl⟩ := List.mem_map.mp m
    match i, List.mem_range.mp m' with
    | 0, _ => exact ⟨_, g1⟩
    | 1, _ => exact ⟨_, g2⟩
    | 2, _ => exact ⟨_, g3⟩
    | 3, _ => exact ⟨_, g4⟩
    | 4, _ => exact ⟨_, g5⟩) (fun j ⟨o, e⟩ => ⟨o, hk j o e⟩) (fun j m q => nomatch (I.dead j (hA j m)).symm.trans q) (fun j e => by cases e; exact ⟨_, te 4 (by decide), g5⟩) fun u0 e => nomatch e
  have hh1 : A.in1.handled = none := hh
  have len : (zipD a c).length = a.length := by unfold zipD; rw [List.length_map, List.length_zip, ← hl, Nat.min_self]
  have sz : (mkS a).cps.size = a.length := List.size_toArray
  have sz2 : (mkS c).cps.size = a.length := hl ▸ List.size_toArray
  exact ⟨_, b + 4, _, x, I2, itr_zip (sz ▸ str_draws hh1 (b + 0) (mkS a) t) (sz2 ▸ str_draws hh1 (b + 1) (mkS c) u) len (fun w k d v v' hd px py => by
      unfold zipD at hd
      rw [List.getElem?_map] at hd
      obtain ⟨⟨p, q⟩, e, rfl⟩ := Option.map_eq_some_iff.mp hd
      obtain ⟨e1, e2⟩ := List.getElem?_zip_eq_some.mp e
      exact ⟨_, _, rfl, rep_of_strP px e1, rep_of_strP py e2⟩),
    ⟨0, .none, .none, _, _, ⟨g5, g3, g4, ⟨_, g1, rfl, rfl⟩, ⟨_, g2, rfl, rfl⟩⟩, te, g1, g2, rfl, Nat.zero_le _⟩, .of I (f 4), ⟨_, te 4 (by decide), g5⟩⟩
theorem TI_zip {K : Ctx} {ρ : Rho} {σ σ₁ : St} {x : Str} {p pos tp : Pos} {e e' : Expr} {elts : List Expr} {kk : Nat} {a c : List Nat} (hb : Bi K.C x (.type "zip")) (hk : K.fd.glob x = true) (hl : a.length = c.length) (ha : TA K ρ [e, e'] pos σ [.str (mkS a), .str (mkS c)] σ₁) (hu : unstarred [e, e'] = true := by rfl) : TI K ρ (.Call (.Name x p) [e, e'] [] pos) (.Tuple elts kk tp) σ (zipD a c) σ₁ := fun u0 u0 q =>
  wpAny_Call_Name_kw (builtin_ok q hk hb (callWith_go (first := []) rfl hu ha q fun vs w1 x1 p1 ⟨_, _, ⟨t, e1⟩, _, _, ⟨u, e2⟩, e3⟩ => by
    subst e1 e2 e3
    exact wpAny_mono (zip_strs hl p1.o.room.handled p1.I) (fun u s2 h => wpAny_mono h (fun u0 u0 o => o.after q.I x1) fun u0 u0 e => e) fun u0 u0 e => e))
end Mine
end
section
open PySem PySem.W PyProof.Rows
namespace Mine
noncomputable def ltP (a c : Int × Int) : Bool := if a.1 = c.1 then decide (a.2 < c.2) else decide (a.1 < c.1)
noncomputable def pairO (a : Int × Int) (t u : Tok) (n : Nat) : Obj := { cls := .type "tuple", dict := none, data := .seq #[.int a.1 t, .int a.2 u] n, slots := #[] }
theorem pair_lt (l b : Addr) (a c : Int × Int) (t1 t2 u1 u2 : Tok) (n m : Nat) :
    Meets (Builtin.«tuple.__lt__» ⟨[.ref l, .ref b], []⟩) (fun A R s => s.heap.get? l = some (pairO a t1 t2 n) ∧ s.heap.get? b = some (pairO c u1 u2 m) ∧ R (.ok (.ret (.bool (ltP a c)))) s) :=
  .of_wp fun prog w A R s h => by
    obtain ⟨hp, g, d, tk, os⟩ := s; obtain ⟨hl, hb, h⟩ := h
    unfold pairO at hl hb
    have f2 := AutoSeq1.sub_tuple_tuple
    have lt : ∀ {A : Around} {i j : Int} {t u : Tok} {Q : Value → Shared → Prop} {E s}, Q (.bool (decide (i < j))) s → wpAny (model prog w) A (richCompare .Lt (.int i t) (.int j u)) Q E s := fun {A i j t u Q E s} q =>
      richCompare_gives (op := .Lt) (typeIs_int s _ t) (typeIs_int s _ u) F.slot_int_lt F.entry_int_lt (F.args_int_lt_2 _ _) (gives_int_lt _ _ t u) (fun x => nomatch x) q
    wp_walk using wpAny_loadPart' hl, wpAny_loadPart' hb, wpAny_forIn_list _ (fun rest b s' => b.1 = none ∧ s' = ⟨hp, g, d, tk, os⟩ ∧
      (rest = [(Value.int a.1 t1, Value.int c.1 u1), (Value.int a.2 t2, Value.int c.2 u2)] ∨ rest = [(Value.int a.2 t2, Value.int c.2 u2)] ∧ a.1 = c.1 ∨ rest = [] ∧ a.1 = c.1 ∧ a.2 = c.2)) _
    case turn =>
      rintro ⟨y, x⟩ rest b s' ⟨hb', rfl, h1 | ⟨h1, e1⟩ | ⟨h1, _⟩⟩
      · cases h1
        refine wpAny_bind (wpAny_eqBool_int ?_)
        by_cases e1 : a.1 = c.1
        · rw [beq_iff_eq.mpr e1]
          wp_walk
          exact ⟨rfl, rfl, .inr (.inl ⟨rfl, e1⟩)⟩
        · rw [beq_eq_false_iff_ne.mpr e1]
          wp_walk using lt
          exact ⟨_, rfl, by unfold ltP at h; rwa [if_neg e1] at h⟩
      · cases h1
        refine wpAny_bind (wpAny_eqBool_int ?_)
        by_cases e2 : a.2 = c.2
        · rw [beq_iff_eq.mpr e2]
          wp_walk
          exact ⟨rfl, rfl, .inr (.inr ⟨rfl, e1, e2⟩)⟩
        · rw [beq_eq_false_iff_ne.mpr e2]
          wp_walk using lt
          exact ⟨_, rfl, by unfold ltP at h; rwa [if_pos e1] at h⟩
      · cases h1
    case fin =>
      rintro ⟨b1, b2⟩ s' ⟨hb', rfl, h1 | ⟨h1, e1⟩ | ⟨_, e1, e2⟩⟩
      · cases h1
      · cases h1
      · simp only at hb'
        subst hb'
        wp_walk
        unfold ltP at h
        rw [if_pos e1, e2, decide_eq_false (Int.lt_irrefl _)] at h
        exact ⟨_, rfl, h⟩
    case h =>
      exact ⟨rfl, rfl, .inl rfl⟩
end Mine
end
section
open PySem PySem.W PyProof.Rows
namespace Mine
theorem wp_use {α : Type} {M : Model} {A : Around} {E E' : Value → Shared → Prop} {s : Shared} {P : Shared → Prop} {t : Sem α} {Q : α → Shared → Prop} (h : wpAny M A (pure () : Sem Unit) (fun u0 => P) E' s) (k : ∀ s', P s' → wpAny M A t Q E s') : wpAny M A t Q E s := fun Γ p g => k s (h Γ p g) Γ p g
noncomputable def pkD (p : Int × Int) : D := .tup [.int p.1, .int p.2]
noncomputable def bestK (kf : Nat → Int × Int) (l : List Nat) (b : Nat) : Nat := l.foldl (fun b c => if ltP (kf c) (kf b) then c else b) b
noncomputable def heldK (kf : Nat → Int × Int) : Option Nat → List D
  | none => []
  | some c => [sg c, pkD (kf c)]
noncomputable def finK (kf : Nat → Int × Int) : Option Nat → List Nat → Option Nat
  | none, [] => none
  | none, c :: l => some (bestK kf l c)
  | some b, l => some (bestK kf l b)
section
variable {C : Cx} {A : Around} {σ : St} {w : W} {E : Value → Shared → Prop}
theorem rich_lt {a c : Int × Int} {va vc : Value} {Q : Value → Shared → Prop} (hu : A.units < cLine) (ra : Rep C w (pkD a) va) (rc : Rep C w (pkD c) vc) (h : Q (.bool (ltP a c)) w.s) : wpAny C.M A (richCompare .Lt va vc) Q E w.s := by
  obtain ⟨p, u1, n, z, u2, u3, ⟨t1, e1⟩, u4, u5, ⟨t2, e2⟩, e3⟩ := ra
  obtain ⟨q, u1, m, y, u2, u3, ⟨u1, f1⟩, u4, u5, ⟨u2, f2⟩, f3⟩ := rc
  subst e1 e2 e3 f1 f2 f3
  exact richCompare_meets_room (op := .Lt) ⟨_, z.is, rfl⟩ ⟨_, y.is, rfl⟩ F.slot_tuple_lt F.entry_tuple_lt (F.args_tuple_lt_2 _ _) (pair_lt p q a c t1 t2 u1 u2 n m) ⟨z.is, y.is, (fun x => nomatch x), h⟩ hu
variable {kf : Nat → Int × Int} {m j : Nat} {cc : List (Str × D)} {it : Value} {q k S : Addr} {J : List D → W → Prop} {w₀ : W} {pn : Pos}
theorem held_set {l l' : List D} {vs' : List Value} {h : Heap} {t : Tok} {n' : Nat} (I : Inv C σ w) (g : GL C S l w) (e : h.get? S = some (seqObj "list" vs' n')) (hs : Heap.SameBut S w.s.heap h) (r : RepL C w l' vs') :
    Step (· = S) w (w.put [] .fz h t []) ∧ Inv C σ (w.put [] .fz h t []) ∧ GL C S l' (w.put [] .fz h t []) := by
  obtain ⟨vs, n, z, u1⟩ := g
  obtain ⟨X, I'⟩ := priv_go (t := t) I z e fun b o ne y => (hs.2 b ne).trans y
  exact ⟨X, I', vs', n', ⟨z.tag, e⟩, X.repL r⟩
theorem minK_loop (R1 : Rm m A.in1) (X : ItrL C A.in1 (.Name "x" pn) it k J Nl) (hS : S ≠ k) (nk : NoT w₀ k) (nS : NoT w₀ S) {Rr : Result → Shared → Prop} {fin : Nat} (hR : ∀ v s, Out C w₀ σ (sg fin) v s → Rr (.ok (.ret v)) s) :
    ∀ (rest : List Nat) (b : Option Nat) (w : W), (∀ c ∈ rest, LamTo C m j cc [sg c] σ (pkD (kf c)) σ) → finK kf b rest = some fin → Step (fun a => a = k ∨ a = S) w₀ w → Inv C σ w → J (rest.map sg) w → GL C S (heldK kf b) w → Rep C w (.lam j cc) (.ref q) →
      codeAny C.M A (.builtin "min.loop" ⟨[it, .ref q, .ref S], []⟩) Rr w.s
  | [], b, w, _, hf, x, I, jj, g, _ => by
    cases b with
    | none => cases hf
    | some b =>
    cases Option.some.inj hf
    refine codeAny_builtin PySem.F.entry_min_loop ?_
    rw [Around.under_plainId PySem.F.plain_min_loop _]
    obtain ⟨vs, n, z, v, u1, ⟨tv, ev⟩, v2, u2, r2, e3⟩ := id g
    subst ev e3
    show wpAny _ A.in1 (seqItems? (.ref S) >>= _) _ _ _
    refine wpAny_bind (wpAny_seqItems z.is rfl ?_)
    show wpAny _ A.in1 (tryCatch (pyNext it) _ >>= _) _ _ _
    refine wpAny_bind (wpAny_tryCatch (wpAny_mono (X.done I jj (.none _)) (fun r s1 ⟨e, o⟩ => ?_) fun u0 u0 e => e))
    subst e
    obtain ⟨w1, h, t, x1, I1, hk⟩ := o
    have zS := (x1.mu S (fun e => hS e)) _ _ z
    have hS' := hk S _ (fun i m e => hS (by cases List.mem_singleton.mp m; cases zS.tag.symm.trans e; rfl)) zS.is
    show wpAny _ A.in1 (updateSeq S (fun u0 => #[]) >>= _) _ _ _
    refine wpAny_bind (wpAny_updateSeq hS' rfl (wpAny_bind (wpAny_letGo (wpAny_pure ?_))))
    have hk2 : ∀ b o, (∀ i ∈ [k, S], w1.tag b ≠ .mu i) → w1.s.heap.get? b = some o → (h.update S (Obj.mapSeq fun u0 => #[])).get? b = some o := fun b o ne y =>
      ((Heap.SameBut.update h S (Obj.mapSeq fun u0 => #[])).2 b (fun e => ne S (.tail _ (.head _)) (e ▸ zS.tag))).trans (hk b o (fun i m => ne i (List.mem_singleton.mp m ▸ .head _)) y)
    exact hR _ _ ⟨w1.fin [k, S] _ t, (x.trans (x1.weaken fun u0 => .inl)).fin hk2 (fun i hi => .inr (hi.elim (fun e => e ▸ .head _) fun e => e ▸ .tail _ (.head _))) (fun i m => (List.mem_cons.mp m).elim (fun e => e ▸ nk) fun m => List.mem_singleton.mp m ▸ nS), I1.fin hk2, ⟨tv, rfl⟩⟩
  | c :: rest, b, w, hl, hf, x, I, jj, g, rq => by
    refine codeAny_builtin PySem.F.entry_min_loop ?_
    rw [Around.under_plainId PySem.F.plain_min_loop _]
    obtain ⟨vs, n, z, rv⟩ := id g
    show wpAny _ A.in1 (seqItems? (.ref S) >>= _) _ _ _
    refine wpAny_bind (wpAny_seqItems z.is rfl ?_)
    show wpAny _ A.in1 (tryCatch (pyNext it) _ >>= _) _ _ _
    refine wpAny_bind (wpAny_tryCatch (wpAny_mono (X.item I jj (.some _ _ _)) (fun r s1 ⟨v, e, o⟩ => ?_) fun u0 u0 e => e))
    subst e
    refine wp_use o fun s2 ⟨w2, x2, I2, j2, r2⟩ => ?_
    have g2 : GL C S (heldK kf b) w2 := gat_L.go x2.toMono (x2.mu S fun e => hS e) g
    have rv2 := x2.repL rv
    show wpAny _ A.in1 (tryCatch (holding [v] (PySem.call (.ref q) [v])) _ >>= _) _ _ _
    refine wpAny_bind (wpAny_tryCatch (wpAny_holding (call_go R1 (hl c (.head _)) I2 (x2.rep rq) ⟨v, [], r2, rfl⟩ fun u s3 ⟨w3, x3, I3, r3⟩ => ?_)))
    have g3 : GL C S (heldK kf b) w3 := gat_L.go x3.toMono (x3.mu S id) g2
    have j3 := X.stable j2 x3 id
    have rq3 := x3.rep (x2.rep rq)
    have x03 : Step (fun a => a = k ∨ a = S) w₀ w3 := (x.trans (x2.weaken fun u0 => .inl)).trans x3.ofN
    have hname : (toString "min" ++ toString ".loop" : String) = "min.loop" := by decide
    have store : ∀ b', finK kf (some b') rest = some fin → heldK kf (some b') = [sg c, pkD (kf c)] → codeAny C.M A (.builtin "min.loop" ⟨[it, .ref q, .ref S], []⟩) Rr { w3.s with heap := w3.s.heap.update S (Obj.mapSeq fun u0 => #[v, u]) } := fun b' hf' e' => by
      obtain ⟨vs3, n3, z3, u1⟩ := id g3
      obtain ⟨n4, h4⟩ := isL_update (ws := [v, u]) (f := fun u0 => #[v, u]) z3.is rfl
      obtain ⟨X4, I4, g4⟩ := held_set (t := w3.s.toks) (l' := heldK kf (some b')) I3 g3 h4 (Heap.SameBut.update ..) (e' ▸ ⟨v, _, x3.rep r2, u, _, r3, rfl⟩)
      exact minK_loop R1 X hS nk nS hR rest (some b') (w3.put [] .fz _ w3.s.toks []) (fun y m => hl y (.tail _ m)) hf' (x03.trans (X4.weaken fun u0 => .inr)) I4 (X.stable j3 X4 fun e => hS e.symm) g4 (X4.rep rq3)
    cases b with
    | none =>
      cases rv
      show wpAny _ A.in1 (updateSeq S (fun u0 => #[v, u]) >>= _) _ _ _
      obtain ⟨vs3, n3, z3, rr⟩ := id g3
      refine wpAny_bind (wpAny_updateSeq z3.is rfl ?_ (by rw [List.size_toArray, rr.length]; exact Nat.zero_le _))
      show wpAny _ A.in1 (again (.builtin (toString "min" ++ toString ".loop") _)) _ _ _
      rw [hname]
      exact wpAny_pure ⟨plainId_quiet PySem.F.plain_min_loop _, store c hf rfl⟩
    | some b =>
      obtain ⟨vo, u1, ⟨to, eo⟩, vv, u2, rvv, e⟩ := rv
      subst e eo
      show wpAny _ A.in1 (tryCatch (holding [v, u] (richCompare .Lt u vv >>= _)) _ >>= _) _ _ _
      refine wpAny_bind (wpAny_tryCatch (wpAny_holding (wpAny_bind (rich_lt R1.unit r3 (x3.rep (x2.rep rvv)) ?_))))
      refine wpAny_bind (wpAny_holding (wpAny_truthy_bool ?_))
      refine wpAny_bind (wpAny_letGo (wpAny_pure ?_))
      have hf1 : some (bestK kf rest (if ltP (kf c) (kf b) then c else b)) = some fin := hf
      cases hb : ltP (kf c) (kf b) with
      | true =>
        rw [hb] at hf1
        obtain ⟨vs3, n3, z3, rr⟩ := id g3
        simp only [if_true]
        refine wpAny_bind ?_
        refine wpAny_updateSeq z3.is rfl (wpAny_bind (wpAny_letGo ?_)) (by rw [List.size_toArray, rr.length, sizeLine_is]; exact Nat.le_of_ble_eq_true rfl)
        rw [hname]
        exact wpAny_pure ⟨plainId_quiet PySem.F.plain_min_loop _, store c hf1 rfl⟩
      | false =>
        rw [hb] at hf1
        simp only [Bool.false_eq_true, if_false]
        refine wpAny_bind (wpAny_letGo ?_)
        rw [hname]
        exact wpAny_pure ⟨plainId_quiet PySem.F.plain_min_loop _, minK_loop R1 X hS nk nS hR rest (some b) w3 (fun y m => hl y (.tail _ m)) hf1 x03 I3 j3 g3 rq3⟩
end
end Mine
end
section
open PySem PySem.W PyProof.Rows
namespace Mine
theorem call_minK {C : Cx} {A : Around} {σ : St} {w : W} {E : Value → Shared → Prop} {text : List Nat} {kf : Nat → Int × Int} {m j fin : Nat} {cc : List (Str × D)} {t : Tok} {q : Addr} (R1 : Rm m A.in1) (hh : A.handled = none) (I : Inv C σ w) (Hk : ∀ c ∈ text, LamTo C m j cc [sg c] σ (pkD (kf c)) σ) (hf : finK kf none text = some fin) (rq : Rep C w (.lam j cc) (.ref q)) :
    wpAny C.M A (PySem.call (.builtin "min") [.str (mkS text) t] [(Str.ofString "key", .ref q)]) (Out C w σ (sg fin)) E w.s := by
  have hname : (toString "min" ++ toString ".loop" : String) = "min.loop" := by decide
  have hh1 : A.in1.handled = none := hh
  refine kmk_tree PySem.F.kind_min PySem.F.plain_min PySem.F.entry_min (kmk_min_key _ _) ?_
  show wpAny _ A.in1 (Builtin.Builtins.bindParams "min" ["key", "default"] 0 ⟨[], [(Str.ofString "key", .ref q)]⟩ >>= _) _ _ w.s
  refine wpAny_bind (wpAny_of_eq (show Builtin.Builtins.bindParams "min" ["key", "default"] 0 ⟨[], [(Str.ofString "key", .ref q)]⟩ = pure [some (.ref q), none] from rfl) ?_)
  refine wpAny_bind (wpAny_pure ?_)
  refine wpAny_bind (wpAny_mono (iter_str (x := mkS text) (target := .Name "x" default) hh1 I ⟨t, rfl⟩) (fun it s1 o => ?_) fun u0 u0 e => e)
  obtain ⟨w2, k, J, x2, I2, X, jj, nk, ok, zk⟩ := o
  refine wpAny_bind (wpAny_newList ?_ (Nat.zero_le _))
  rw [hname]
  refine wpAny_pure ⟨plainId_quiet PySem.F.plain_min_loop _, ?_⟩
  obtain ⟨x3, I3⟩ := new_priv (o := seqObj "list" [] 0) I2 rfl w2.s.toks
  have f0 := Heap.fresh0 w2.s.heap
  exact minK_loop R1 X.toItrL (fun e => zk.ne e.symm) nk ((NoT.of I2 f0).back I x2) (fun v s o => o) text none (w2.put [w2.s.heap.objs.size] (.mu w2.s.heap.objs.size) (w2.s.heap.push (seqObj "list" [] 0)) w2.s.toks []) Hk hf (x2.trans x3).ofN I3 (X.stable jj x3 id)
    ⟨[], 0, ⟨if_pos (.head _), Heap.get?_push_size _ rfl⟩, rfl⟩ (x3.rep (x2.rep rq))
theorem TE_minK {K : Ctx} {ρ : Rho} {σ σ₁ : St} {p pos kp : Pos} {e lam : Expr} {text : List Nat} {kf : Nat → Int × Int} {m j fin : Nat} {cc : List (Str × D)} (hb : Bi K.C "min" (.builtin "min")) (hk : K.fd.glob "min" = true) (he : TE K ρ (eval e K.env) σ (.str (mkS text)) σ) (hlam : TE K ρ (eval lam K.env) σ (.lam j cc) σ₁) (hm : m + 1 ≤ K.k)
    (Hk : ∀ c ∈ text, LamTo K.C m j cc [sg c] σ₁ (pkD (kf c)) σ₁) (hf : finK kf none text = some fin) (hu : unstarred [e] = true := by rfl) (h1 : backTo pos (starEach [e] K.env) = (false, eval e K.env) :: backTo pos (starEach [] K.env) := by rfl) (h2 : (backTo pos (starEach [e] K.env)).any (·.1) = false := by rfl) :
    TE K ρ (eval (.Call (.Name "min" p) [e] [⟨some "key", lam, kp⟩] pos) K.env) σ (sg fin) σ₁ := fun w E q =>
  wpAny_Call_Name_kw (builtin_ok q hk hb (callWith_kw ((TL_cons hu he TL_nil).go q fun vs w1 x1 p1 ⟨v, _, ⟨t, e1⟩, e2⟩ => kws_cons (hlam.go p1 fun u w2 n2 => kws_nil (by
    subst e1 e2
    obtain ⟨a, z⟩ := n2.r
    exact wpAny_mono (call_minK (p1.o.room.less hm).in1 p1.o.room.handled n2.p.I Hk hf ⟨a, z⟩) (fun u0 u0 o => o.after (x1.trans n2.x)) fun u0 u0 e => e))) h1 h2))
end Mine
end
section
open PySem PySem.W PyProof.Rows
namespace Mine
theorem TS_lmL {K : Ctx} {ρ : Rho} {σ σ₁ : St} {scope : Scope} {α : Type} {ds : List D} {target iter elt : Expr} {pos py spos : Pos} {y : Str} (i : Nat) (own : List Nat) (e f : α → D) (xs : List α) (hi : TI K ρ iter target σ ds σ₁) (hd : ds = xs.map e) (hz : xs.length ≤ 16777216) (H : ∀ cenv, ∀ x ∈ xs, CT (K.sub scope own cenv) (blank own 0 ρ) σ₁ target elt (e x) (f x)) (hy : K.ns[i]? = some y) (hm : K.may ρ i = true) (h : compB K.fd scope own = true := by kernel_rfl) (hw : swB K.fd.scope scope y py.line pos.line = true := by kernel_rfl) (hs : ∀ x, foldedSetIterable iter K.env x = pure x := by exact fun u0 => rfl) :
    TS K ρ (exec (.Assign [.Name y py] (.ListComp elt [⟨target, iter, [], 0⟩] scope pos) spos) K.env) σ .next (ρ.set i (some (.loc σ₁.length))) (σ₁ ++ [.lst (xs.map f)]) :=
  TS_lc (comp_l h) hi (fun a cenv ha => hd ▸ CRun.map ha e f xs hz fun x m => let ⟨a, l, t⟩ := H cenv x m; ⟨_, a, l, t⟩) hw hy hm (fun a w w' x I n q => cnv_loc made_L x I n q) hs
theorem WTurn.ite {K : Ctx} {β : Type} {test : Expr} {body : List Stmt} {P : β → Prop} {m : β → Nat} {R : β → Rho} {S : β → St} {F : β → Rho × St} {b : β} (q : Bool) (t : TB K (R b) (isTrue test K.env (eval test K.env)) (S b) q (S b)) (h0 : q = false → R b = (F b).1 ∧ S b = (F b).2)
    (b' : β) (h1 : q = true → P b' ∧ m b' < m b ∧ F b' = F b) (u : q = true → TS K (R b) (execs body K.env) (S b) .next (R b') (S b')) : WTurn K test body P m R S F b := by
  cases q with
  | true => exact .next b' _ (h1 rfl).1 (h1 rfl).2.1 (h1 rfl).2.2 t (u rfl)
  | false => exact .done (h0 rfl).1 ((h0 rfl).2 ▸ t)
noncomputable def dig (c i : Nat) : Nat := c / 64 ^ i % 64
noncomputable def cntG (c w : Nat) : Nat → Nat
  | 0 => 0
  | k + 1 => if (decide (1 + w % 2 < k + 1) && (dig c k == 0)) = true then cntG c w k else k + 1
noncomputable def cntO (c w : Nat) : Nat := cntG c w 6
noncomputable def octE (c w i : Nat) : Nat × Nat := (dig c i, w / (i + 2) % 2)
noncomputable def octB (c w i : Nat) : D := .int (obt (octE c w i) (if 0 < i then 1 else 0) : Nat)
noncomputable def octP (c w : Nat) : List (Nat × Nat) := ((List.range (cntO c w)).map (octE c w)).reverse
theorem octE_ok (c w i : Nat) : okO (octE c w i) := ⟨Nat.mod_lt _ (by decide), Nat.mod_lt _ (by decide)⟩
theorem cntG_pos (c w : Nat) : ∀ k, 1 ≤ cntG c w (k + 1)
  | 0 => by
    unfold cntG
    rw [if_neg fun h => absurd (of_decide_eq_true (Bool.and_eq_true_iff.mp h).1) (Nat.not_lt.mpr (Nat.le_add_right 1 _))]
    exact Nat.le_refl _
  | k + 1 => by
    unfold cntG
    split
    · exact cntG_pos c w k
    · exact Nat.succ_le_succ (Nat.zero_le _)
theorem cntG_le (c w : Nat) : ∀ k, cntG c w k ≤ k
  | 0 => Nat.le_refl _
  | k + 1 => by
    unfold cntG
    split
    · exact Nat.le_succ_of_le (cntG_le c w k)
    · exact Nat.le_refl _
theorem cntG_lt (c w : Nat) : ∀ k, c < 64 ^ k → c < 64 ^ cntG c w k
  | 0, h => h
  | k + 1, h => by
    unfold cntG
    split
    · next q =>
      refine cntG_lt c w k ?_
      have h1 := beq_iff_eq.mp (Bool.and_eq_true_iff.mp q).2
      unfold dig at h1
      rw [Nat.mod_eq_of_lt (Nat.div_lt_of_lt_mul (by rw [← Nat.pow_succ]; exact h))] at h1
      exact (Nat.div_eq_zero_iff.mp h1).resolve_left (Nat.ne_of_gt (Nat.pow_pos (by decide)))
    · exact h
theorem val_rev (c w : Nat) : ∀ k u, valO ((List.range k).map (octE c w)).reverse u = u * 64 ^ k + c % 64 ^ k
  | 0, u => by rw [Nat.pow_zero, Nat.mod_one, Nat.mul_one]; rfl
  | k + 1, u => by
    rw [List.range_succ, List.map_append, List.reverse_append]
    refine (val_rev c w k (u * 64 + dig c k)).trans ?_
    rw [Nat.pow_succ, Nat.mod_mul, Nat.add_mul, Nat.mul_assoc, Nat.mul_comm 64 (64 ^ k), Nat.mul_comm (dig c k), Nat.add_assoc, Nat.add_comm (c % 64 ^ k)]; rfl
theorem octP_ok (c w : Nat) (hc : c < 64 ^ 6) : ∃ p r, octP c w = p :: r ∧ r.length ≤ 5 ∧ valO r p.1 = c ∧ ∀ q ∈ octP c w, okO q := by
  have hq : ∀ q ∈ octP c w, okO q := fun q m => by
    obtain ⟨i, u1, rfl⟩ := List.mem_map.mp (List.mem_reverse.mp m); exact octE_ok c w i
  have hv : valO (octP c w) 0 = c := (val_rev c w (cntO c w) 0).trans (by rw [Nat.zero_mul, Nat.zero_add]; exact Nat.mod_eq_of_lt (cntG_lt c w 6 hc))
  have hl : (octP c w).length = cntO c w := by unfold octP; rw [List.length_reverse, List.length_map, List.length_range]
  have h1 := cntG_pos c w 5
  have h2 := cntG_le c w 6
  generalize octP c w = l at *
  cases l with
  | nil => exact absurd (show 1 ≤ cntO c w from h1) (by rw [show cntO c w = 0 from hl.symm]; decide)
  | cons p r => exact ⟨p, r, rfl, Nat.le_of_succ_le_succ (Nat.le_trans (Nat.le_of_eq hl) h2), by rw [← hv]; show _ = valO r (0 * 64 + p.1); rw [Nat.zero_mul, Nat.zero_add], hq⟩
noncomputable def fd14 : Fd := ⟨(pT 14).scope, ["number", "way", "figures", "place", "figure"], [0, 1, 2], []⟩
theorem fd14_ok : fnB fd14 (pT 14).params [] = true := by kernel_rfl
theorem pow64 (i : Nat) : (64 : Int) ^ (i : Int).toNat = ((64 ^ i : Nat) : Int) := by rw [Int.toNat_natCast, Int.natCast_pow]; rfl
theorem p64_small : ∀ {i : Nat}, i < 6 → ((64 : Int) ^ (i : Int).toNat).natAbs < 2 ^ 63 := fun {i} h => (by decide : ∀ i : Nat, i < 6 → ((64 : Int) ^ (i : Int).toNat).natAbs < 2 ^ 63) i h
theorem dig_v (c i : Nat) : D.int (((c : Int).fdiv ((64 : Int) ^ (i : Int).toNat)).fmod 64) = .int (dig c i : Nat) := by
  rw [pow64, fdiv_nat, show (64 : Int) = ((64 : Nat) : Int) from rfl, fmod_nat]; rfl
theorem oct_val (c w i : Nat) : D.int ((dig c i : Nat) + 64 * (if decide ((i : Int) > 0) = true then 1 else 0) + 128 * ((w : Int).fdiv ((i : Int) + 2)).fmod 2) = octB c w i := by
  rw [show (i : Int) + 2 = ((i + 2 : Nat) : Int) from rfl, fdiv_nat, show (2 : Int) = ((2 : Nat) : Int) from rfl, fmod_nat]
  refine congrArg D.int ?_
  unfold obt octE
  by_cases h : 0 < i
  · rw [if_pos h, if_pos (decide_eq_true (by omega))]; rfl
  · rw [if_neg h, if_neg (by rw [decide_eq_true_iff]; omega)]; rfl
theorem rev_map : ∀ n < 7, ∀ f : Nat → D, (sliceRange (sliceBounds none none (some (-1)) n).1 (sliceBounds none none (some (-1)) n).2.1 (sliceBounds none none (some (-1)) n).2.2).filterMap (((List.range n).map f)[·]?) = ((List.range n).map f).reverse := fun n h f => by
  match n, h with
  | 0, _ => rfl
  | 1, _ => rfl
  | 2, _ => rfl
  | 3, _ => rfl
  | 4, _ => rfl
  | 5, _ => rfl
  | 6, _ => rfl
theorem enc_rev (c w : Nat) : ∀ k, ((List.range k).map (octB c w)).reverse = natD (encO ((List.range k).map (octE c w)).reverse)
  | 0 => rfl
  | k + 1 => by
    rw [List.range_succ, List.map_append, List.reverse_append, List.map_append, List.reverse_append]
    show octB c w k :: ((List.range k).map (octB c w)).reverse = natD (obt (octE c w k) (mkO ((List.range k).map (octE c w)).reverse) :: encO ((List.range k).map (octE c w)).reverse)
    rw [enc_rev c w k]
    have : (if 0 < k then 1 else 0) = mkO ((List.range k).map (octE c w)).reverse := by
      cases k with
      | zero => rfl
      | succ k => rw [List.range_succ, List.map_append, List.reverse_append]; rfl
    unfold octB
    rw [this]; rfl
theorem figs_enum (c k : Nat) : enumD ((List.range k).map fun i => D.int (dig c i : Nat)) = (List.range k).map fun i => .tup [.int (i : Nat), .int (dig c i : Nat)] := by
  rw [enumD_map]
  apply List.ext_getElem?
  intro i
  rw [List.getElem?_map, List.getElem?_map, List.getElem?_zipIdx, Option.map_map, Nat.zero_add]
  by_cases h : i < k
  · rw [List.getElem?_range h]; rfl
  · rw [List.getElem?_eq_none (by rw [List.length_range]; exact Nat.le_of_not_lt h)]; rfl
noncomputable def figL (c k : Nat) : List D := (List.range k).map fun i => .int (dig c i : Nat)
theorem figL_len (c k : Nat) : (figL c k).length = k := by unfold figL; rw [List.length_map, List.length_range]
theorem figL_succ (c k : Nat) : figL c (k + 1) = figL c k ++ [.int (dig c k : Nat)] := by unfold figL; rw [List.range_succ, List.map_append]; rfl
theorem octets_body {C : Cx} {k ca : Nat} {c w : Nat} {σ : St} (G : Names C) : Body C k fd14 ca (pT 14).body [some (.int (c : Nat)), some (.int (w : Nat)), none, none, none] σ (.lst (natD (encO (octP c w)))) (σ ++ [.dead]) := .ret fun A env hc' => by
  refine TR_cons (TS_lmL 2 [3] (fun i : Nat => .int i) (fun i => .int (dig c i : Nat)) (List.range 6) (TI_range1 (n := 6) G.range (by kernel_rfl) rfl (a1 TE_int) (Nat.le_of_ble_eq_true rfl)) rfl (by decide) (fun cenv i m =>
    ⟨.v (i := 3) rfl rfl, .set rfl, (TE_bin (TE_bin (tv 0 rfl) (TE_bin TE_int (tv 3 rfl) (bin_pow (by decide) (Int.natCast_nonneg _) (by have := List.mem_range.mp m; omega))) (bin_fdiv (by rw [pow64]; exact Int.ofNat_ne_zero.mpr (Nat.ne_of_gt (Nat.pow_pos (by decide)))) (p64_small (List.mem_range.mp m)))) TE_int (bin_fmod (by decide))).val (dig_v c i)⟩) rfl rfl) ?_
  refine TR_cons (TS_while (WRun.wf (P := fun b : Nat => b < 6 ∧ cntG c w (b + 1) = cntO c w) (m := fun b => b) (R := fun u0 => [some (.int (c : Nat)), some (.int (w : Nat)), some (.loc σ.length), none, none])
    (S := fun b => σ ++ [.lst (figL c (b + 1))]) (F := fun u0 => ([some (.int (c : Nat)), some (.int (w : Nat)), some (.loc σ.length), none, none], σ ++ [.lst (figL c (cntO c w))])) (fun b h => ?_) 5 5 ⟨by decide, rfl⟩ (Nat.le_refl _))) ?_
  · obtain ⟨h1, h2⟩ := h
    have hn : (σ ++ [AO.lst (figL c (b + 1))])[σ.length]? = some (.lst (figL c b ++ [.int (dig c b : Nat)])) := by rw [← figL_succ]; exact at_len
    have e1 : decide (((figL c (b + 1)).length : Int) > 1 + (w : Int).fmod 2) = decide (1 + w % 2 < b + 1) := by
      rw [figL_len, show (2 : Int) = ((2 : Nat) : Int) from rfl, fmod_nat]; exact decide_eq_decide.mpr (by omega)
    have e2 : ((dig c b : Nat) == (0 : Int)) = (dig c b == 0) := by
      exact Bool.eq_iff_iff.mpr (by rw [beq_iff_eq, beq_iff_eq]; omega)
    refine .ite (decide (1 + w % 2 < b + 1) && (dig c b == 0)) (TB.to (TB_boolop (TB_and (TB_cmp (TE_bi G.len (by kernel_rfl) rfl rfl (a1 (tv 2 rfl)) fun q r => bi_len (.o at_len) (by rw [figL_len]; omega) q.I r) (TE_bin TE_int (TE_bin (tv 1 rfl) TE_int (bin_fmod (by decide))) bin_add) cmp_gt rfl) (TB_and (TB_cmp (TE_idx (tv 2 rfl) (TE_neg TE_int) (idx_last (.o hn) (by rw [figL_len]; omega))) TE_int cmp_eqi rfl) TB_and_nil)))
        (by rw [e1, e2, Bool.and_true])) (fun q => ⟨rfl, by rw [← h2, show cntG c w (b + 1) = b + 1 from if_neg (ne_true_of_eq_false q)]⟩) (b - 1) (fun q => ?_) fun q => ?_
    · have q1 := of_decide_eq_true (Bool.and_eq_true_iff.mp q).1
      have h3 : cntG c w (b + 1) = cntG c w b := if_pos q
      cases b with
      | zero => exact absurd q1 (Nat.not_lt.mpr (Nat.le_add_right 1 _))
      | succ b => exact ⟨⟨Nat.lt_of_succ_lt h1, h3.symm.trans h2⟩, Nat.lt_succ_self _, rfl⟩
    · have q1 := of_decide_eq_true (Bool.and_eq_true_iff.mp q).1
      cases b with
      | zero => exact absurd q1 (Nat.not_lt.mpr (Nat.le_add_right 1 _))
      | succ b => exact (TS_cons (TS_ex (TE_pop hn (by rw [figL_len]; omega) (tv 2 rfl))) TS_nil).st set_len
  · have hk := cntG_le c w 6
    refine TR_stop (TR_ret ((TE_sl ((TP_lm [3, 4] (fun i : Nat => .tup [.int (i : Nat), .int (dig c i : Nat)]) (octB c w) (List.range (cntO c w)) (TI_enum G.enum (by kernel_rfl) ((TE_frz (tv 2 rfl) at_len (.lst _)).st set_len) enum_lst) (figs_enum c _) (by rw [List.length_range]; exact Nat.le_trans hk (by decide)) fun cenv i m =>
      ⟨.t (.cons (i := 3) rfl rfl (.cons (i := 4) rfl rfl (.nil _))), (Le.set rfl).trans (.set rfl), (TE_bin (TE_bin (tv 4 rfl) (TE_bin TE_int (TE_bi G.int (by kernel_rfl) rfl rfl (a1 (TE_cmp (tv 3 rfl) TE_int cmp_gt rfl)) fun q r => bi_int q.I r) (bin_mul (.inl (by decide)))) bin_add)
        (TE_bin TE_int (TE_bin (TE_bin (tv 1 rfl) (TE_bin (tv 3 rfl) TE_int bin_add) (bin_fdiv (by omega) (by have := Nat.lt_of_lt_of_le (List.mem_range.mp m) hk; omega))) TE_int (bin_fmod (by decide))) (bin_mul (.inl (by decide)))) bin_add).val (oct_val c w i)⟩).rest made_L)
      TE_part_none TE_part_none (TE_part_some (TE_neg TE_int)) .none .none (.int _) (sl_lst (.z _) (by decide) (by rw [List.length_map, List.length_range]; exact Nat.le_trans hk (by decide)))).val (congrArg D.lst ?_)))
    rw [List.length_map, List.length_range]
    exact (rev_map _ (Nat.lt_succ_of_le hk) _).trans (enc_rev c w _)
theorem octets_fn {C : Cx} {fa : Addr} {c w : Nat} {σ : St} (G : Names C) (F : Fn C "_law_octets" (pT 14).params (pT 14).scope (pT 14).body fa) : FnTo C 1 fa [.int (c : Nat), .int (w : Nat)] σ (.lst (natD (encO (octP c w)))) (σ ++ [.dead]) :=
  fn_to (f := fd14) F G.lim fd14_ok (.cons 0 rfl rfl (.cons 1 rfl rfl .nil)) fun u0 u0 => octets_body (c := c) (k := 0) G
end Mine
end
section
open PySem PySem.W PyProof.Rows
namespace Mine
noncomputable def Fm (S : List Nat) (σ σ' : St) : Prop := σ.length ≤ σ'.length ∧ ∀ k < σ.length, k ∉ S → σ'[k]? = σ[k]?
theorem Fm.refl (S : List Nat) (σ : St) : Fm S σ σ := ⟨Nat.le_refl _, fun u0 u0 u0 => rfl⟩
theorem Fm.trans {S : List Nat} {a b c : St} (h : Fm S a b) (k : Fm S b c) : Fm S a c :=
  ⟨Nat.le_trans h.1 k.1, fun n hn hs => (k.2 n (Nat.lt_of_lt_of_le hn h.1) hs).trans (h.2 n hn hs)⟩
theorem Fm.app (S : List Nat) (σ J : St) : Fm S σ (σ ++ J) := ⟨by simp, fun k hk u0 => List.getElem?_append_left hk⟩
theorem Fm.set {S : List Nat} {n : Nat} (σ : St) (x : AO) (h : n ∈ S ∨ σ.length ≤ n) : Fm S σ (σ.set n x) :=
  ⟨by simp, fun k hk hs => List.getElem?_set_ne (by rintro rfl; rcases h with h | h; exact hs h; omega)⟩
theorem Fm.mono {S T : List Nat} {a b : St} (h : Fm S a b) (hs : ∀ x ∈ S, x ∈ T) : Fm T a b := ⟨h.1, fun k hk hn => h.2 k hk fun m => hn (hs k m)⟩
theorem Fm.at {S : List Nat} {a b : St} (h : Fm S a b) {k : Nat} {x : AO} (hk : a[k]? = some x) (hn : k ∉ S) : b[k]? = some x := by
  rw [h.2 k (List.getElem?_eq_some_iff.mp hk).1 hn, hk]
theorem at_lt {σ : St} {k : Nat} {x : AO} (h : σ[k]? = some x) : k < σ.length := (List.getElem?_eq_some_iff.mp h).1
noncomputable abbrev FnP (C : Cx) (x : Str) (k : Nat) (a : Addr) : Prop := Fn C x (pT k).params (pT k).scope (pT k).body a
structure Pr (C : Cx) where
  G : Names C
  a2 : Addr
  F2 : FnP C "add_func_stats" 8 a2
  a3 : Addr
  F3 : FnP C "add_callers" 9 a3
  a4 : Addr
  F4 : FnP C "count_calls" 10 a4
  fl : GlbD C "COMPILER_FLAG_NAMES" (.di (mapD .str flagT))
  a7 : Addr
  F7 : FnP C "pretty_flags" 2 a7
  a8 : Addr
  F8 : FnP C "_parse_varint" 3 a8
  a12 : Addr
  F12 : FnP C "_law_stream" 12 a12
  p12 : Addr
  T12 : FnTab C (pT 12) a12 p12
  a13 : Addr
  F13 : FnP C "_law_spelled" 13 a13
  a14 : Addr
  F14 : FnP C "_law_octets" 14 a14
  a15 : Addr
  F15 : FnP C "_law_turned" 15 a15
  tc : Addr
  tg : Glb C "TupleComp" (.ref tc)
  ti : InsFacts C tc "comp_select_list"
  t0 : Addr
  T0 : Meth C tc "__init__" (pM 7 0).params (pM 7 0).scope (pM 7 0).body t0
  tn : NewFacts C tc t0
  t1 : Addr
  T1 : Meth C tc "compare" (pM 7 1).params (pM 7 1).scope (pM 7 1).body t1
  tm : MethFacts C tc "compare" t1
  lx : Addr
  lg : Glb C "_netrclex" (.ref lx)
  l0 : Addr
  L0 : Meth C lx "__init__" (pM 5 0).params (pM 5 0).scope (pM 5 0).body l0
  lnw : NewFacts C lx l0
  l2 : Addr
  l3 : Addr
  X : LexF C lx l2 l3
structure LX (x : Lx) (ln : Nat) (cs : List Nat) (pb : List D) (σ : St) : Prop where
  l : σ[x.L]? = some (.ins x.ct (x.fs ln))
  i : σ[x.IT]? = some (.it (cs.map sg))
  p : σ[x.Pb]? = some (.lst pb)
  f : σ[x.FO]? = some (.fo (rdF x.IT))
noncomputable def Lx.cells (x : Lx) : List Nat := [x.L, x.IT, x.Pb, x.FO]
structure Lx.Nd (x : Lx) : Prop where
  a1 : x.L ≠ x.IT
  a2 : x.L ≠ x.Pb
  a3 : x.L ≠ x.FO
  b1 : x.IT ≠ x.Pb
  b2 : x.IT ≠ x.FO
  c1 : x.Pb ≠ x.FO
section
variable {x : Lx} {ln : Nat} {cs pre : List Nat} {pb pb' : List D} {σ σ' : St} {S : List Nat} {C : Cx}
theorem LX.frame (X : LX x ln cs pb σ) (F : Fm S σ σ') (h : ∀ n ∈ x.cells, n ∉ S) : LX x ln cs pb σ' :=
  ⟨F.at X.l (h _ (.head _)), F.at X.i (h _ (.tail _ (.head _))), F.at X.p (h _ (.tail _ (.tail _ (.head _)))), F.at X.f (h _ (.tail _ (.tail _ (.tail _ (.head _)))))⟩
theorem LX.H (X : LX x ln cs pb σ) (hn : x.Nd) : x.H σ := ⟨at_lt X.l, at_lt X.i, hn.a1, X.f, hn.a3.symm, hn.b2.symm⟩
theorem LX.more (X : LX x ln cs pb σ) (hn : x.Nd) (ln' : Nat) (cs' : List Nat) (o : AO) : LX x ln' cs' pb (x.at σ ln' cs' ++ [o]) ∧ Fm [x.L, x.IT] σ (x.at σ ln' cs' ++ [o]) :=
  ⟨⟨at_app (X.H hn).at_L, at_app (X.H hn).at_I, at_app ((Lx.at_o hn.a2.symm hn.b1.symm).trans X.p), at_app (X.H hn).at_F⟩, ((Fm.set _ _ (.inl (.tail _ (.head _)))).trans (Fm.set _ _ (.inl (.head _)))).trans (Fm.app _ _ _)⟩
theorem LX.get (Q : Pr C) (hx : x.ct = Q.lx) {word rest : List Nat} {w : Nat} (X : LX x ln (pre ++ (spell word w ++ rest)) [] σ) (hn : x.Nd) (hpre : ∀ c ∈ pre, isWs c = true) (hw0 : word ≠ []) (hwl : word.length ≤ 1000) :
    ∃ σ', FnTo C 4 Q.l2 [.loc x.L] σ (.str (mkS word)) σ' ∧ LX x (ln + nls (pre ++ took word w)) (left w ++ rest) [] σ' ∧ Fm [x.L, x.IT] σ σ' := by
  have h := get_word (ln := ln) (pre := pre) (rest := rest) (w := w) Q.G (hx ▸ Q.X) (X.H hn) hn.a2.symm hn.b1.symm X.p hpre hw0 hwl
  rw [(X.H hn).same X.l X.i, Nat.add_assoc, ← nls_app] at h
  obtain ⟨a, b⟩ := X.more hn (ln + nls (pre ++ took word w)) (left w ++ rest) (.cit x.L true)
  exact ⟨_, h, a, b⟩
theorem LX.fin (Q : Pr C) (hx : x.ct = Q.lx) (X : LX x ln pre [] σ) (hn : x.Nd) (hpre : ∀ c ∈ pre, isWs c = true) :
    ∃ σ', FnTo C 4 Q.l2 [.loc x.L] σ (.str (mkS [])) σ' ∧ LX x (ln + nls pre) [] [] σ' ∧ Fm [x.L, x.IT] σ σ' := by
  have h := get_end (ln := ln) Q.G (hx ▸ Q.X) (X.H hn) hn.a2.symm hn.b1.symm X.p hpre
  rw [List.append_nil, (X.H hn).same X.l X.i] at h
  obtain ⟨a, b⟩ := X.more hn (ln + nls pre) [] (.cit x.L false)
  exact ⟨_, h, a, b⟩
end
theorem Lx.no_push {x : Lx} {ln : Nat} : kget (x.fs ln) "push_token" = none := by kernel_rfl
theorem Lx.no_get {x : Lx} {ln : Nat} : kget (x.fs ln) "get_token" = none := by kernel_rfl
theorem Run.start {K : Ctx} {ι : Type} {N : ι → St → Option D → ι → St → Prop} {target : Expr} {body els : List Stmt} {n : Nat} {i : ι} {ρ ρ' : Rho} {σ σ₁ σ' : St} {fl : Fl} (e : σ = σ₁) (r : Run K N target body els n i ρ σ fl ρ' σ') : Run K N target body els n i ρ σ₁ fl ρ' σ' := e ▸ r
end Mine
end
section
open PySem PySem.W PyProof.Rows
namespace Mine
theorem map_inj_on {α β : Type} {f : α → β} : ∀ {a b : List α}, (∀ x ∈ a, ∀ y ∈ b, f x = f y → x = y) → a.map f = b.map f → a = b
  | [], [], _, _ => rfl
  | [], _ :: _, _, h => nomatch h
  | _ :: _, [], _, h => nomatch h
  | x :: a, y :: b, h, e => by
    rw [List.map_cons, List.map_cons, List.cons.injEq] at e
    rw [h x (.head _) y (.head _) e.1, map_inj_on (fun u m v n => h u (.tail _ m) v (.tail _ n)) e.2]
noncomputable def SgOk (s : Nat → Nat) : Prop := ∀ i < 6, ∀ j < 6, s i = s j → i = j
noncomputable def lnX (s : Nat → Nat) (p : List Nat) : Str := mkS (p.map s)
structure Ln (p : List Nat) : Prop where
  l : p.length = 6
  m : ∀ x ∈ p, x < 6
theorem sg_inj {s : Nat → Nat} (h : SgOk s) {i j : Nat} (hi : i < 6) (hj : j < 6) (e : mkS [s i] = mkS [s j]) : i = j := h i hi j hj (List.cons.inj (mkS_inj.mp e)).1
theorem lnS_inj {s : Nat → Nat} (h : SgOk s) {p q : List Nat} (hp : ∀ x ∈ p, x < 6) (hq : ∀ x ∈ q, x < 6) (e : lnX s p = lnX s q) : p = q := map_inj_on (fun x m y n => h x (hp x m) y (hq y n)) (mkS_inj.mp e)
theorem any_map_inj {α : Type} [BEq α] [LawfulBEq α] {f : α → Str} {q : α} : ∀ {l : List α}, (∀ p ∈ l, f p = f q → p = q) → (l.map f).any (· == f q) = l.contains q
  | [], _ => rfl
  | p :: l, h => by
    rw [List.map_cons, List.any_cons, List.contains_cons, any_map_inj fun y m => h y (.tail _ m)]
    congr 1
    exact Bool.eq_iff_iff.mpr (by rw [beq_iff_eq, beq_iff_eq]; exact ⟨fun e => (h p (.head _) e).symm, fun e => e ▸ rfl⟩)
noncomputable def turnL (p : List Nat) (k : Nat) : List Nat := p.take (k + 1) ++ (p.drop (k + 1)).reverse
theorem Ln.turn {p : List Nat} (h : Ln p) (k : Nat) : Ln (turnL p k) := ⟨by
  unfold turnL
  rw [List.length_append, List.length_reverse, ← List.length_append, List.take_append_drop]; exact h.l, fun x m => (List.mem_append.mp m).elim (fun m => h.m x (List.mem_of_mem_take m)) fun m => h.m x (List.mem_of_mem_drop (List.mem_reverse.mp m))⟩
theorem sl_pre (k : Nat) (h1 : 1 ≤ k) (h3 : k ≤ 3) {p : List Nat} (h : p.length = 6) : slS (mkS p) none (some ((k : Int) + 1)) none = mkS (p.take (k + 1)) := by
  match p, h with
  | [a, b, c, d, e, f], _ =>
    match k, h1, h3 with
    | 1, _, _ => rfl
    | 2, _, _ => rfl
    | 3, _, _ => rfl
theorem sl_suf (k : Nat) (h1 : 1 ≤ k) (h3 : k ≤ 3) {p : List Nat} (h : p.length = 6) : slS (mkS p) none (some (k : Int)) (some (-1)) = mkS (p.drop (k + 1)).reverse := by
  match p, h with
  | [a, b, c, d, e, f], _ =>
    match k, h1, h3 with
    | 1, _, _ => kernel_rfl
    | 2, _, _ => kernel_rfl
    | 3, _, _ => kernel_rfl
theorem sl_tail {a : Nat} {p : List Nat} (h : (a :: p).length = 6) : slS (mkS (a :: p)) (some 1) none none = mkS p := by
  match p, h with
  | [b, c, d, e, f], _ => kernel_rfl
theorem lnS_turn (s : Nat → Nat) (p : List Nat) (k : Nat) : mkS ((p.map s).take (k + 1) ++ ((p.map s).drop (k + 1)).reverse) = lnX s (turnL p k) := by
  unfold lnX turnL
  rw [List.map_append, List.map_take, List.map_reverse, List.map_drop]
noncomputable def stepW (T : Nat → List Nat) (p : List Nat) (acc : List (List Nat)) (k : Nat) : List (List Nat) := if ((T (p.getD 5 0)).contains (p.getD k 0) && !acc.contains (turnL p k)) = true then acc ++ [turnL p k] else acc
noncomputable def webGo (T : Nat → List Nat) : Nat → List (List Nat) → Nat → Option (List (List Nat))
  | 0, _, _ => none
  | f + 1, acc, i => match acc[i]? with
    | none => some acc
    | some p => webGo T f ([1, 2, 3].foldl (stepW T p) acc) (i + 1)
end Mine
end
section
open PySem PySem.W PyProof.Rows
namespace Mine
noncomputable def calL (s : Nat → Nat) (l : List Nat) : List (Str × Int) := l.map fun j => (mkS [s j], 2 * (j : Int) + 1)
noncomputable def figsOf (l : List Nat) : Int × Int × Int × Int := ((l.length : Int), 2 * (l.length : Int), ((l.sum : Nat) : Int), (((l.map fun j => j * j).sum : Nat) : Int))
noncomputable def bkD (s : Nat → Nat) (T : Nat → List Nat) : List (Str × D) := (List.range 6).map fun i => (mkS [s i], statD (figsOf (T i)) (calL s (T i)))
theorem kget_sg {s : Nat → Nat} (h : SgOk s) (F : Nat → D) {i : Nat} (hi : i < 6) : ∀ l : List Nat, (∀ j ∈ l, j < 6) → kget (l.map fun j => (mkS [s j], F j)) (mkS [s i]) = if l.contains i then some (F i) else none
  | [], _ => rfl
  | j :: l, h6 => by
    have hj := h6 j (.head _)
    rw [List.contains_cons]
    show (if mkS [s j] = mkS [s i] then some (F j) else kget (l.map fun j => (mkS [s j], F j)) (mkS [s i])) = _
    by_cases e : j = i
    · subst e; rw [if_pos rfl, BEq.rfl]; rfl
    · rw [if_neg fun q => e (sg_inj h hj hi q), kget_sg h F hi l fun y m => h6 y (.tail _ m), beq_eq_false_iff_ne.mpr (Ne.symm e)]; rfl
theorem bk_at {s : Nat → Nat} (h : SgOk s) (T : Nat → List Nat) {i : Nat} (hi : i < 6) : kget (bkD s T) (mkS [s i]) = some (statD (figsOf (T i)) (calL s (T i))) :=
  (kget_sg h (fun i => statD (figsOf (T i)) (calL s (T i))) hi _ fun j m => List.mem_range.mp m).trans (if_pos (List.contains_iff_mem.mpr (List.mem_range.mpr hi)))
theorem cal_has {s : Nat → Nat} (h : SgOk s) {l : List Nat} (h6 : ∀ j ∈ l, j < 6) {i : Nat} (hi : i < 6) : (kget (intD (calL s l)) (mkS [s i])).isSome = l.contains i := by
  have : intD (calL s l) = l.map fun j => (mkS [s j], D.int (2 * (j : Int) + 1)) := List.map_map ..
  rw [this, kget_sg h (fun j : Nat => D.int (2 * (j : Int) + 1)) hi l h6]
  cases l.contains i <;> rfl
noncomputable def fd15 : Fd := ⟨(pT 15).scope, ["lexer", "book", "start", "line", "name", "place", "other"], [0, 1, 2, 3, 4, 5, 6], []⟩
theorem fd15_ok : fnB fd15 (pT 15).params [] = true := by kernel_rfl
noncomputable def lnD (s : Nat → Nat) (l : List (List Nat)) : List D := (l.map (lnX s)).map .str
theorem lnD_len (s : Nat → Nat) (l : List (List Nat)) : (lnD s l).length = l.length := (List.length_map _).trans (List.length_map _)
noncomputable def wSt (x : Lx) (s : Nat → Nat) (σ : St) (acc pb : List (List Nat)) : St := (σ ++ [AO.lst (lnD s acc)]).set x.Pb (AO.lst (lnD s pb))
section
variable {x : Lx} {ln : Nat} {cs : List Nat} {σ : St} {s : Nat → Nat} {acc pb acc' pb' : List (List Nat)} {pb0 : List D}
theorem wSt_L (X : LX x ln cs pb0 σ) (hn : x.Nd) : (wSt x s σ acc pb)[x.L]? = some (.ins x.ct (x.fs ln)) := (List.getElem?_set_ne hn.a2.symm).trans (at_app X.l)
theorem wSt_P (X : LX x ln cs pb0 σ) : (wSt x s σ acc pb)[x.Pb]? = some (.lst (lnD s pb)) := List.getElem?_set_self (by rw [List.length_append]; exact Nat.lt_succ_of_lt (at_lt X.p))
theorem wSt_l (X : LX x ln cs pb0 σ) : (wSt x s σ acc pb)[σ.length]? = some (.lst (lnD s acc)) := (List.getElem?_set_ne (Nat.ne_of_lt (at_lt X.p))).trans at_len
theorem wSt_push : (wSt x s σ acc pb).set x.Pb (.lst (lnD s pb')) = wSt x s σ acc pb' := List.set_set ..
theorem wSt_app (X : LX x ln cs pb0 σ) : (wSt x s σ acc pb).set σ.length (.lst (lnD s acc')) = wSt x s σ acc' pb := by
  unfold wSt
  rw [List.set_comm _ _ (Nat.ne_of_lt (at_lt X.p)), set_len]
theorem lnD_snoc {p : List Nat} : lnD s acc ++ [.str (lnX s p)] = lnD s (acc ++ [p]) := by unfold lnD; rw [List.map_append, List.map_append]; rfl
end
theorem TS_ifB {K : Ctx} {ρ ρ' : Rho} {σ σ₁ σ' : St} {fl : Fl} {test : Expr} {body els : List Stmt} {pos : Pos} {q : Bool} (ht : TB K ρ (isTrue test K.env (eval test K.env)) σ q σ₁) (h1 : q = true → TS K ρ (execs body K.env) σ₁ fl ρ' σ') (h2 : q = false → TS K ρ (execs els K.env) σ₁ fl ρ' σ') : TS K ρ (exec (.If test body els pos) K.env) σ fl ρ' σ' := by
  cases q with
  | true => exact TS_if_t ht (h1 rfl)
  | false => exact TS_if_f ht (h2 rfl)
structure TnP (x : Lx) (ln : Nat) (cs : List Nat) (σ : St) (s : Nat → Nat) (T : Nat → List Nat) : Prop where
  X : LX x ln cs [] σ
  n : x.Nd
  s : SgOk s
  t : ∀ i < 6, ∀ j ∈ T i, j < 6
theorem stepW_ln {T : Nat → List Nat} {p : List Nat} (hp : Ln p) {acc : List (List Nat)} (h : ∀ q ∈ acc, Ln q) (k : Nat) : ∀ q ∈ stepW T p acc k, Ln q := by
  unfold stepW
  split
  · exact fun q m => (List.mem_append.mp m).elim (h q) fun m => List.mem_singleton.mp m ▸ hp.turn k
  · exact h
theorem stepW_len (T : Nat → List Nat) (p : List Nat) (acc : List (List Nat)) (k : Nat) : (stepW T p acc k).length ≤ acc.length + 1 := by
  unfold stepW
  split
  · exact Nat.le_of_eq List.length_append
  · exact Nat.le_succ _
theorem stepsW_ln {T : Nat → List Nat} {p : List Nat} (hp : Ln p) : ∀ (ks : List Nat) {acc : List (List Nat)}, (∀ q ∈ acc, Ln q) → ∀ q ∈ ks.foldl (stepW T p) acc, Ln q
  | [], _, h => h
  | k :: ks, _, h => stepsW_ln hp ks (stepW_ln hp h k)
theorem stepsW_len (T : Nat → List Nat) (p : List Nat) : ∀ (ks : List Nat) (acc : List (List Nat)), (ks.foldl (stepW T p) acc).length ≤ acc.length + ks.length
  | [], _ => Nat.le_refl _
  | k :: ks, acc => Nat.le_trans (stepsW_len T p ks _) (by have := stepW_len T p acc k; rw [List.length_cons]; omega)
theorem stepW_pre (T : Nat → List Nat) (p : List Nat) (acc : List (List Nat)) (k : Nat) : ∃ m, stepW T p acc k = acc ++ m := by
  unfold stepW
  split
  · exact ⟨_, rfl⟩
  · exact ⟨[], (List.append_nil _).symm⟩
theorem stepsW_pre (T : Nat → List Nat) (p : List Nat) : ∀ (ks : List Nat) (acc : List (List Nat)), ∃ m, ks.foldl (stepW T p) acc = acc ++ m
  | [], acc => ⟨[], (List.append_nil _).symm⟩
  | k :: ks, acc => by
    obtain ⟨m, e⟩ := stepW_pre T p acc k
    obtain ⟨m', e'⟩ := stepsW_pre T p ks (stepW T p acc k)
    exact ⟨m ++ m', by rw [List.foldl_cons, e', e, List.append_assoc]⟩
section
variable {C : Cx} {A : Around} {env : Env} {x : Lx} {ln : Nat} {cs : List Nat} {σ : St} {s : Nat → Nat} {T : Nat → List Nat} {st : D}
noncomputable def tnS : Stmt := (pT 15).body.getD 2 (.Pass default)
noncomputable def tnI : Stmt := (forB tnS).getD 1 (.Pass default)
noncomputable def tnR (L : Nat) (bk st : D) (n : Nat) : Rho := [some (.loc L), some bk, some st, some (.loc n), none, none, none]
theorem tn_place (Q : Pr C) (hx : x.ct = Q.lx) (P : TnP x ln cs σ s T) {p : List Nat} (hp : Ln p) {acc pb : List (List Nat)} (hacc : ∀ q ∈ acc, Ln q) (hz : acc.length ≤ 10000) (hzp : pb.length ≤ 10000) (k : Nat) (h1 : 1 ≤ k) (h3 : k ≤ 3) (i : Nat) (hpb : pb = acc.drop i) (hi : i ≤ acc.length) :
    TS (.fn C A 5 fd15 env) (((tnR x.L (.ds (bkD s T)) st σ.length).set 4 (some (.str (lnX s p)))).set 5 (some (.int (k : Nat)))) (execs (forB tnI) env) (wSt x s σ acc pb) .next ((tnR x.L (.ds (bkD s T)) st σ.length).set 4 (some (.str (lnX s p)))) (wSt x s σ (stepW T p acc k) ((stepW T p acc k).drop i)) := by
  have hl : (p.map s).length = 6 := (List.length_map s).trans hp.l
  have hk6 : k < p.length := hp.l ▸ Nat.lt_of_le_of_lt h3 (by decide)
  have e1 := sl_pre k h1 h3 hl
  have e2 := sl_suf k h1 h3 hl
  have get : ∀ j, j < 6 → (mkS (p.map s)).cps[j]? = some (s (p.getD j 0)) := fun j hj => by
    show (p.map s).toArray[j]? = _
    rw [List.getElem?_toArray, List.getElem?_map, List.getD_eq_getElem?_getD, List.getElem?_eq_getElem (hp.l ▸ hj)]; rfl
  have lt : ∀ j, j < 6 → p.getD j 0 < 6 := fun j hj => by
    rw [List.getD_eq_getElem?_getD, List.getElem?_eq_getElem (hp.l ▸ hj)]; exact hp.m _ (List.getElem_mem _)
  have lx6 : ∀ {q : List Nat}, (mkS q).length = q.length := fun {q} => mkS_len q
  have tl : ((p.map s).take (k + 1)).length + ((p.map s).drop (k + 1)).reverse.length ≤ 16777216 := by
    rw [List.length_reverse, ← List.length_append, List.take_append_drop, hl]; decide
  refine TS_cons (TS_asg (i := 6) (d := .str (lnX s (turnL p k))) (TE.val (TE_bin (TE.val (TE_sl (tv 4 rfl) TE_part_none (TE_part_some (TE_bin (tv 5 rfl) TE_int bin_add)) TE_part_none .none (.int _) .none (sl_str rfl (e1 ▸ (mkS_len _).symm ▸ Nat.le_trans (Nat.le_add_right _ _) tl))) (congrArg D.str e1))
    (TE.val (TE_sl (tv 4 rfl) TE_part_none (TE_part_some (tv 5 rfl)) (TE_part_some (TE_neg TE_int)) .none (.int _) (.int _) (sl_str rfl (e2 ▸ (mkS_len _).symm ▸ Nat.le_trans (Nat.le_add_left _ _) tl))) (congrArg D.str e2)) (bin_cat tl)) (congrArg D.str (lnS_turn s p k))) rfl rfl rfl) ?_
  have hL := wSt_L (s := s) (acc := acc) (pb := pb) P.X P.n
  have hP := wSt_P (s := s) (acc := acc) (pb := pb) P.X
  have hl' := wSt_l (s := s) (acc := acc) (pb := pb) P.X
  have hT := P.t _ (lt 5 (by decide))
  have eq : ((kget (intD (calL s (T (p.getD 5 0)))) (mkS [s (p.getD k 0)])).isSome && ((!(acc.map (lnX s)).any (· == lnX s (turnL p k))) && true)) = ((T (p.getD 5 0)).contains (p.getD k 0) && !acc.contains (turnL p k)) := by
    rw [cal_has P.s hT (lt k (hp.l ▸ hk6)), any_map_inj fun y m e => lnS_inj P.s (hacc y m).m (hp.turn k).m e, Bool.and_true]
  have hm : ∀ m, m ≤ 20000 → m ≤ 16777216 := fun m h => Nat.le_trans h (by decide)
  refine TS_cons (TS_ifB (ρ' := ((tnR x.L (.ds (bkD s T)) st σ.length).set 4 (some (.str (lnX s p)))).set 5 (some (.int (k : Nat))) |>.set 6 (some (.str (lnX s (turnL p k))))) (TB.to (TB_boolop (TB_and (TB_cmp (TE_idx (tv 4 rfl) (tv 5 rfl) (idx_str (get k (hp.l ▸ hk6)) (Nat.lt_of_le_of_lt h3 (by decide)))) (TE_idx (TE_idx (tv 1 rfl) (TE_idx (tv 4 rfl) TE_int (idx_str (j := 5) (get 5 (by decide)) (by decide))) (idx_ds (.z _) (bk_at P.s T (lt 5 (by decide))))) TE_int (idx_tup (j := 4) rfl (by decide))) (cmp_ind (.z _)) rfl) (TB_and (TB_cmp (tv 6 rfl) (tv 3 rfl) (cmp_ninl (.o hl')) rfl) TB_and_nil))) eq) (fun q => ?_) fun q => ?_) (TS_nilf [5, 6])
  · unfold stepW
    rw [if_pos q]
    have hd : (acc ++ [turnL p k]).drop i = pb ++ [turnL p k] := by rw [hpb, List.drop_append_of_le_length hi]
    rw [hd]
    exact TS_cons (TS.st (σ₂ := wSt x s σ acc (pb ++ [turnL p k])) (TS_ex (TE_mcall (push_fn Q.G (hx ▸ Q.X) (.str (lnX s (turnL p k))) (lnD s pb) hL hP (by rw [lnD_len]; exact Nat.le_trans hzp (by decide))) (Nat.le_of_ble_eq_true rfl) (hx ▸ Q.X.pf) Q.X.pt.isFn rfl (tv 0 rfl) hL Lx.no_push (a1 (tv 6 rfl)))) (by rw [lnD_snoc]; exact wSt_push))
      (TS_cons (TS.st (TS_ex (TE_append (wSt_l P.X) (wSt_l P.X) (by rw [lnD_len]; exact hm _ (Nat.le_trans hz (by decide))) (tv 3 rfl) (a1 (tv 6 rfl)))) (by rw [lnD_snoc]; exact wSt_app P.X)) TS_nil)
  · unfold stepW
    rw [if_neg (ne_true_of_eq_false q), ← hpb]
    exact TS_nil
end
end Mine
end
section
open PySem PySem.W PyProof.Rows
namespace Mine
section
variable {C : Cx} {A : Around} {env : Env} {x : Lx} {ln : Nat} {cs : List Nat} {σ : St} {s : Nat → Nat} {T : Nat → List Nat} {st : D}
theorem foldl_snoc {α β : Type} {f : β → α → β} {b : β} {l : List α} {a : α} : (l ++ [a]).foldl f b = f (l.foldl f b) a := List.foldl_append
theorem tn_line (Q : Pr C) (hx : x.ct = Q.lx) (P : TnP x ln cs σ s T) {p : List Nat} {acc : List (List Nat)} (hacc : ∀ q ∈ acc, Ln q) (hz : acc.length ≤ 9000) (i : Nat) (hi : acc[i]? = some p) :
    TS (.fn C A 5 fd15 env) ((tnR x.L (.ds (bkD s T)) st σ.length).set 4 (some (.str (lnX s p)))) (execs (forB tnS) env) (wSt x s σ acc (acc.drop i)) .next (tnR x.L (.ds (bkD s T)) st σ.length) (wSt x s σ ([1, 2, 3].foldl (stepW T p) acc) (([1, 2, 3].foldl (stepW T p) acc).drop (i + 1))) := by
  have hp : Ln p := hacc p (List.mem_of_getElem? hi)
  have hil : i < acc.length := (List.getElem?_eq_some_iff.mp hi).1
  have hd : acc.drop i = p :: acc.drop (i + 1) := by
    rw [List.drop_eq_getElem_cons hil, (List.getElem?_eq_some_iff.mp hi).2]
  have hP : (wSt x s σ acc (acc.drop i))[x.Pb]? = some (.lst (.str (lnX s p) :: lnD s (acc.drop (i + 1)))) := by rw [wSt_P P.X, hd]; rfl
  have hL := wSt_L (s := s) (acc := acc) (pb := acc.drop i) P.X P.n
  have hz2 : (acc.drop (i + 1)).length ≤ 10000 := Nat.le_trans (List.length_drop ▸ Nat.sub_le _ _) (Nat.le_trans hz (by decide))
  refine TS_cons (TS_if_f (TB.to (TB_cmp (TE.st (TE_mcall (get_push Q.G (hx ▸ Q.X) (.str (lnX s p)) (lnD s (acc.drop (i + 1))) hL hP (by rw [lnD_len]; exact Nat.le_trans hz2 (by decide))) (Nat.le_of_ble_eq_true rfl) (hx ▸ Q.X.gf) Q.X.gt.isFn rfl (tv 0 rfl) hL Lx.no_get an) wSt_push) (tv 4 rfl) cmp_nes rfl) (by rw [BEq.rfl]; rfl)) TS_nil) ?_
  refine TS_cons (TS_for (TI_range2 (a := 1) (n := 3) Q.G.range (by kernel_rfl) rfl (ac TE_int (a1 TE_int)) (Nat.le_of_ble_eq_true rfl)) (Run.start (σ := wSt x s σ (([] : List Nat).foldl (stepW T p) acc) ((([] : List Nat).foldl (stepW T p) acc).drop (i + 1))) rfl (Run.scan0 (e := fun k : Nat => .int (k : Nat)) (R := fun u0 => (tnR x.L (.ds (bkD s T)) st σ.length).set 4 (some (.str (lnX s p)))) (S := fun ks => wSt x s σ (ks.foldl (stepW T p) acc) ((ks.foldl (stepW T p) acc).drop (i + 1))) [1, 2, 3] rfl fun done k todo e => ?_))) (TS_nilf [4])
  have hk : 1 ≤ k ∧ k ≤ 3 := (by decide : ∀ k ∈ [1, 2, 3], 1 ≤ k ∧ k ≤ 3) k (e ▸ List.mem_append_right _ (.head _))
  have hlen := stepsW_len T p done acc
  have h3 : done.length ≤ 3 := by have := congrArg List.length e; rw [List.length_append] at this; exact Nat.le_trans (Nat.le_add_right _ _) (Nat.le_of_eq this.symm)
  obtain ⟨m, em⟩ := stepsW_pre T p done acc
  have hz3 : (done.foldl (stepW T p) acc).length ≤ 10000 := Nat.le_trans hlen (Nat.le_trans (Nat.add_le_add hz h3) (by decide))
  rw [foldl_snoc]
  exact ⟨_, _, .v (i := 5) rfl rfl, .inl rfl, tn_place Q hx P hp (stepsW_ln hp done hacc) hz3 (Nat.le_trans (List.length_drop ▸ Nat.sub_le _ _) hz3) k hk.1 hk.2 (i + 1) rfl (by rw [em, List.length_append]; exact Nat.le_trans hil (Nat.le_add_right _ _))⟩
theorem tn_loop (Q : Pr C) (hx : x.ct = Q.lx) (P : TnP x ln cs σ s T) {W : List (List Nat)} {pp : Pos} : ∀ (f : Nat) (acc : List (List Nat)) (i : Nat), webGo T f acc i = some W → (∀ q ∈ acc, Ln q) → acc.length ≤ 1 + 3 * i → i ≤ acc.length → i + f ≤ 2000 →
    Run (.fn C A 5 fd15 env) (Nv σ.length) (.Name "name" pp) (forB tnS) [] f i (tnR x.L (.ds (bkD s T)) st σ.length) (wSt x s σ acc (acc.drop i)) .next (tnR x.L (.ds (bkD s T)) st σ.length) (wSt x s σ W []) ∧ (∀ q ∈ W, Ln q) ∧ W.length ≤ 6001
  | 0, _, _, h, _, _, _, _ => nomatch h
  | f + 1, acc, i, h, hacc, hz, hi, hf => by
    unfold webGo at h
    cases q : acc[i]? with
    | none =>
      rw [q] at h
      have h := Option.some.inj h
      subst h
      have e : acc.drop i = [] := List.drop_eq_nil_of_le (List.getElem?_eq_none_iff.mp q)
      rw [e]
      exact ⟨.done (.none (wSt_l P.X) (by rw [lnD, List.getElem?_map, List.getElem?_map, q]; rfl)) TS_nil, hacc, by omega⟩
    | some p =>
      rw [q] at h
      have hil : i < acc.length := (List.getElem?_eq_some_iff.mp q).1
      have hlen := stepsW_len T p [1, 2, 3] acc
      obtain ⟨m, em⟩ := stepsW_pre T p [1, 2, 3] acc
      obtain ⟨r, r2⟩ := tn_loop Q hx P f _ (i + 1) h (stepsW_ln (hacc p (List.mem_of_getElem? q)) _ hacc) (by rw [List.length_cons, List.length_cons, List.length_singleton] at hlen; omega) (by rw [em, List.length_append]; omega) (by omega)
      exact ⟨.next (.some (wSt_l P.X) (by rw [lnD, List.getElem?_map, List.getElem?_map, q]; rfl)) (.v (i := 4) rfl rfl) (tn_line Q hx P hacc (by omega) i q) r, r2⟩
theorem turned_fn (Q : Pr C) (hx : x.ct = Q.lx) (P : TnP x ln cs σ s T) {start : List Nat} (hs : Ln start) {W : List (List Nat)} (hw : webGo T 100 [start] 0 = some W) :
    FnTo C 6 Q.a15 [.loc x.L, .ds (bkD s T), .str (lnX s start)] σ (.lst (lnD s W)) (σ ++ [.dead]) :=
  fn_to (f := fd15) Q.F15 Q.G.lim fd15_ok (.cons 0 rfl rfl (.cons 1 rfl rfl (.cons 2 rfl rfl .nil))) fun c u0 => .ret fun A env hc => by
    have hX := P.X
    refine TR_cons (TS_asg (i := 3) ((TP_list (a1 (tv 2 rfl)) (Nat.le_of_ble_eq_true rfl)).loc made_L) rfl rfl rfl) ?_
    refine TR_cons (TS.st (σ₂ := wSt x s σ [start] [start]) (TS_ex (TE_mcall (push_fn Q.G (hx ▸ Q.X) (.str (lnX s start)) [] (at_app hX.l) (at_app hX.p) (Nat.zero_le _)) (Nat.le_of_ble_eq_true rfl) (hx ▸ Q.X.pf) Q.X.pt.isFn rfl (tv 0 rfl) (at_app hX.l) Lx.no_push (a1 (tv 2 rfl)))) rfl) ?_
    refine TR_cons (TS_for (TI_live (tv 3 rfl) (wSt_l hX)) (tn_loop (A := A) (env := env) (st := .str (lnX s start)) Q hx P 100 [start] 0 hw (fun q m => List.mem_singleton.mp m ▸ hs) (Nat.le_refl _) (Nat.zero_le _) (by decide)).1) ?_
    refine TR_stop (TR_ret ((TE_frz (tv 3 rfl) (wSt_l hX) (.lst _)).st ?_))
    unfold wSt
    rw [List.set_comm _ _ (Nat.ne_of_lt (at_lt hX.p)), set_len]
    exact set_eq (at_app hX.p)
end
end Mine
end
section
open PySem PySem.W PyProof.Rows
namespace Mine
section
variable {K : Ctx} {ρ ρ' : Rho} {σ σ₁ σ' : St} {scope : Scope} {α β : Type} {ds : List D} {target iter elt t2 i2 : Expr} {ifs f2 : List Expr} {pos py spos : Pos} {y : Str}
theorem TS_ll (B i : Nat) (own : List Nat) (e : α → D) (ys : α → List β) (e2 : β → D) (f : α → β → D) (p : α → β → Bool) (xs : List α) (hi : TI K ρ iter target σ ds σ₁) (hd : ds = xs.map e) (hb : ∀ x ∈ xs, (ys x).length ≤ B) (hz : (xs.flatMap fun x => ((ys x).filter (p x)).map (f x)).length + B ≤ 16777216) (H : ∀ cenv, ∀ x ∈ xs, C2 (K.sub scope own cenv) (blank own 0 ρ) σ₁ target t2 i2 elt f2 (e x) (ys x) e2 (f x) (p x)) (hy : K.ns[i]? = some y) (hm : K.may ρ i = true) (h : compB K.fd scope own = true := by kernel_rfl) (hw : swB K.fd.scope scope y py.line pos.line = true := by kernel_rfl) (hs : ∀ x, foldedSetIterable iter K.env x = pure x := by exact fun u0 => rfl) (hs2 : ∀ env x, foldedSetIterable i2 env x = pure x := by exact fun u0 u0 => rfl) :
    TS K ρ (exec (.Assign [.Name y py] (.ListComp elt [⟨target, iter, [], 0⟩, ⟨t2, i2, f2, 0⟩] scope pos) spos) K.env) σ .next (ρ.set i (some (.lst (xs.flatMap fun x => ((ys x).filter (p x)).map (f x))))) σ₁ :=
  TS_lc (comp_ll h) hi (fun a cenv ha => by
    rw [hd]
    refine CRun.nest (M := (xs.flatMap fun x => ((ys x).filter (p x)).map (f x)).length) e (fun x => ((ys x).filter (p x)).map (f x)) xs [] (by rw [List.length_nil, Nat.zero_add]; exact Nat.le_refl _) fun x m => ?_
    obtain ⟨a1, l1, i1, t1⟩ := H cenv x m
    refine ⟨_, a1, l1, fun n hn => TG_nest rfl rfl (fun u0 => turn_l3) rfl ha i1 (CRun.list ha e2 (f x) (p x) (ys x) n (Nat.le_trans (Nat.add_le_add hn (hb x m)) hz) fun y m => let ⟨a, l, t, u⟩ := t1 y m; ⟨_, a, l, t, u⟩) (hs2 cenv)⟩) hw hy hm (fun a w w' x I n q => cnv_rest made_L x I n q) hs
end
noncomputable def fd16 : Fd := ⟨(pT 16).scope, ("script" :: "numbers" :: "draws" :: "signs" :: "low" :: "known" :: "names" :: "order" :: "place" :: "part" :: "rings" :: "away" :: "ties" :: "parts" :: "one" :: "octets" :: "text" :: "lexer" :: "none" :: "book" :: "sign" :: "left" :: "words" :: "other" :: "turns" :: "first" :: "rule" :: "rows" :: "best" :: "row" :: "lines" :: "size" :: "seen" :: "total" :: "start" :: "web" :: "line" :: "closed" :: "number" :: "own" :: "front" :: "behind" :: "octet" :: "word" :: "tie" :: "times" :: []),
  [0, 1, 2, 3, 4, 5, 6, 7, 8, 9, 10, 11, 12, 13, 14, 15, 16, 17, 18, 19, 20, 21, 22, 23, 24, 25, 26, 27, 28, 29, 30, 31, 32, 33, 34, 35, 36, 37], [3, 12, 24]⟩
theorem fd16_ok : fnB fd16 (pT 16).params [] = true := by kernel_rfl
noncomputable def lwR (l : List (Option D)) : Rho := l ++ List.replicate (46 - l.length) none
noncomputable def lwB (i : Nat) : List Stmt := (pT 16).body.drop i
noncomputable def ownL : List Int := [7823, 542, 9254371]
noncomputable def modS (L : List Int) (p : Nat) : List Int := (slI (some (p : Int)) none (some 3) (slI none (some 60) none L)).map (·.fmod 12960000)
noncomputable def numF (L : List Int) (x : Int × Nat) : Nat := ((x.1 + (modS L x.2).sum).fmod 12960000).toNat
noncomputable def numL (L : List Int) : List Nat := ownL.zipIdx.map (numF L)
theorem numL_len (L : List Int) : (numL L).length = 3 := rfl
section
variable {C : Cx} {A : Around} {env : Env} {σ σ' : St} {d : D} {L : List Int}
theorem lw_0 (Q : Pr C) (hL : L.length ≤ 63) (h : TR (.fn C A 8 fd16 env) (lwR [some (.lst (L.map .int)), some (.lst (natD (numL L)))]) (execs (lwB 1) env) σ d σ') : TR (.fn C A 8 fd16 env) (lwR [some (.lst (L.map .int))]) (execs (lwB 0) env) σ d σ' := by
  have h1 : (slI none (some 60) none L).length ≤ 63 := Nat.le_trans (slI_len ..) hL
  refine TR_cons (TS_lm0 1 [8, 39] (fun x : Int × Nat => .tup [.int (x.2 : Nat), .int x.1]) (fun x => .int (numF L x : Nat)) ownL.zipIdx (TI_enum (d := .tup (ownL.map .int)) Q.G.enum (by kernel_rfl) (TE_tuple (ac TE_int (ac TE_int (a1 TE_int))) (Nat.le_of_ble_eq_true rfl)) enum_tup) (enumD_map _ _) (by decide) (fun cenv x m =>
    ⟨.t (.cons (i := 8) rfl rfl (.cons (i := 39) rfl rfl (.nil _))), (Le.set rfl).trans (.set rfl), TE.val (TE_bin (TE_bin (tv 39 rfl) (TE_bi Q.G.sum (by kernel_rfl) rfl rfl (a1 (TP.rest made_L (TP_lm [38] (fun i : Int => .int i) (fun i => .int (i.fmod 12960000)) (slI (some (x.2 : Int)) none (some 3) (slI none (some 60) none L)) (TI_of (TE.val (TE_sl (TE.val (TE_sl (tv 0 rfl) TE_part_none (TE_part_some TE_int) TE_part_none .none (.int _) .none (sl_lst (.z _) (by decide) (by rw [List.length_map]; omega))) (congrArg D.lst (slI_eq ..))) (TE_part_some (tv 8 rfl)) TE_part_none (TE_part_some TE_int) (.int _) .none (.int _) (sl_lst (.z _) (by decide) (by rw [List.length_map]; omega))) (congrArg D.lst (slI_eq ..))) iter_lst) rfl (by have := slI_len (some (x.2 : Int)) none (some 3) (slI none (some 60) none L); omega) fun cenv' i hi =>
      ⟨.v (i := 38) rfl rfl, .set rfl, TE_bin (tv 38 rfl) TE_int (bin_fmod (by decide))⟩))) fun q r => bi_sum (ns := modS L x.2) (by unfold modS; rw [List.map_map]; exact .z _) q.o.room.handled q.I r) bin_add) TE_int (bin_fmod (by decide))) (congrArg D.int (fmod_nat_of _ 12960000 (by decide)).2.symm)⟩) rfl rfl) ?_
  exact h
end
noncomputable def drawL (ns : List Nat) : List Nat := ns.flatMap fun k => (List.range 4).map fun i => k / 60 ^ i % 60
theorem draw_len : ∀ ns : List Nat, (drawL ns).length = 4 * ns.length
  | [] => rfl
  | k :: ns => by
    show (_ ++ drawL ns).length = _
    rw [List.length_append, draw_len ns, List.length_cons, Nat.mul_succ, Nat.add_comm]; rfl
theorem draw_D (ns : List Nat) : (ns.flatMap fun k => ((List.range 4).filter fun u0 => true).map fun i => D.int ((k / 60 ^ i % 60 : Nat) : Int)) = natD (drawL ns) := by
  unfold natD drawL
  rw [List.map_flatMap]; rfl
theorem p60 {i : Nat} (h : i < 4) : (60 : Int) ^ (i : Int).toNat = ((60 ^ i : Nat) : Int) ∧ (60 : Int) ^ (i : Int).toNat ≠ 0 ∧ ((60 : Int) ^ (i : Int).toNat).natAbs < 2 ^ 63 :=
  (by decide : ∀ i : Nat, i < 4 → (60 : Int) ^ (i : Int).toNat = ((60 ^ i : Nat) : Int) ∧ (60 : Int) ^ (i : Int).toNat ≠ 0 ∧ ((60 : Int) ^ (i : Int).toNat).natAbs < 2 ^ 63) i h
theorem draw_v {k i : Nat} (h : i < 4) : D.int (((k : Int).fdiv ((60 : Int) ^ (i : Int).toNat)).fmod 60) = .int ((k / 60 ^ i % 60 : Nat) : Int) := by
  rw [(p60 h).1, fdiv_nat, show (60 : Int) = ((60 : Nat) : Int) from rfl, fmod_nat]
theorem nat_at {ds : List Nat} {i : Nat} {σ : St} (hi : i < ds.length) (hs : i < 2 ^ 62) : IdxOk σ (.lst (natD ds)) (.int (i : Nat)) (.int (ds.getD i 0 : Nat)) :=
  idx_lst (.z _) (by rw [natD, List.getElem?_map, List.getElem?_eq_getElem hi, List.getD_eq_getElem?_getD, List.getElem?_eq_getElem hi]; rfl) (Nat.lt_of_lt_of_le hs (by decide))
noncomputable def sgnT : List (List Nat) := [[97, 98, 99, 100, 101, 102], [34, 92, 35, 32, 10, 9], [97, 34, 98, 92, 99, 32], [13, 40, 34, 120, 92, 41]]
noncomputable def sgn6 (v : Nat) : List Nat := sgnT.getD (v % 4) []
noncomputable def sgnF (v i : Nat) : Nat := (sgn6 v).getD i 0
theorem sgnF_ok (v : Nat) : SgOk (sgnF v) := by
  have := Nat.mod_lt v (show 0 < 4 by decide)
  unfold SgOk sgnF sgn6
  exact (by decide : ∀ v < 4, ∀ i < 6, ∀ j < 6, (sgnT.getD v []).getD i 0 = (sgnT.getD v []).getD j 0 → i = j) (v % 4) this
theorem sgn6_map (v : Nat) : sgn6 v = (List.range 6).map (sgnF v) := (by decide : ∀ v < 4, sgnT.getD v [] = (List.range 6).map fun i => (sgnT.getD v []).getD i 0) (v % 4) (Nat.mod_lt v (by decide))
section
variable {C : Cx} {A : Around} {env : Env} {σ σ' : St} {d s : D} {ns ds : List Nat}
theorem lw_1 (Q : Pr C) (hn : ns.length = 3) (h : TR (.fn C A 8 fd16 env) (lwR [some s, some (.lst (natD ns)), some (.lst (natD (drawL ns)))]) (execs (lwB 2) env) σ d σ') : TR (.fn C A 8 fd16 env) (lwR [some s, some (.lst (natD ns))]) (execs (lwB 1) env) σ d σ' := by
  refine TR_cons (TS_ll 4 2 [38, 8] (fun k : Nat => .int (k : Nat)) (fun u0 => List.range 4) (fun i => .int (i : Nat)) (fun k i => .int ((k / 60 ^ i % 60 : Nat) : Int)) (fun u0 u0 => true) ns (TI_of (tv 1 rfl) iter_lst) rfl (fun u0 u0 => Nat.le_of_eq List.length_range) (by rw [draw_D, natD, List.length_map, draw_len, hn]; decide) (fun cenv k m =>
    ⟨.v (i := 38) rfl rfl, .set rfl, TI_range1 (n := 4) Q.G.range (by kernel_rfl) rfl (a1 TE_int) (by decide), fun i hi => ⟨.v (i := 8) rfl rfl, .set rfl, TT_nil, fun u0 => TE.val (TE_bin (TE_bin (tv 38 rfl) (TE_bin TE_int (tv 8 rfl) (bin_pow (by decide) (Int.natCast_nonneg _) (by have := List.mem_range.mp hi; omega))) (bin_fdiv (p60 (List.mem_range.mp hi)).2.1 (p60 (List.mem_range.mp hi)).2.2)) TE_int (bin_fmod (by decide))) (draw_v (List.mem_range.mp hi))⟩⟩) rfl rfl) ?_
  rw [draw_D]
  exact h
theorem lw_2 (Q : Pr C) (hd : ds.length = 12) (h : TR (.fn C A 8 fd16 env) (lwR [some s, some (.lst (natD ns)), some (.lst (natD ds)), some (.str (mkS (sgn6 (ds.getD 4 0)))), some (.int (ds.getD 5 0 % 28 : Nat))]) (execs (lwB 4) env) σ d σ') : TR (.fn C A 8 fd16 env) (lwR [some s, some (.lst (natD ns)), some (.lst (natD ds))]) (execs (lwB 2) env) σ d σ' := by
  have hm := Nat.mod_lt (ds.getD 4 0) (show 0 < 4 by decide)
  refine TR_cons (TS_asg (i := 3) (d := .str (mkS (sgn6 (ds.getD 4 0)))) (TE_idx (TE_tuple (ac TE_str (ac TE_str (ac TE_str (a1 TE_str)))) (Nat.le_of_ble_eq_true rfl)) (TE.val (TE_bin (TE_idx (tv 2 rfl) TE_int (nat_at (i := 4) (by omega) (by decide))) TE_int (bin_fmod (by decide))) (congrArg D.int (fmod_nat _ 4))) (idx_tup (by
    unfold sgn6
    generalize ds.getD 4 0 % 4 = v at hm
    match v, hm with
    | 0, _ => rfl
    | 1, _ => rfl
    | 2, _ => rfl
    | 3, _ => rfl) (by omega))) rfl rfl rfl) ?_
  exact TR_cons (TS_asg (i := 4) (TE.val (TE_bin (TE_idx (tv 2 rfl) TE_int (nat_at (i := 5) (by omega) (by decide))) TE_int (bin_fmod (by decide))) (congrArg D.int (fmod_nat _ 28))) rfl rfl rfl) h
end
end Mine
end
section
open PySem PySem.W PyProof.Rows
namespace Mine
noncomputable def insN (l : List Nat) (i a : Nat) : List Nat := l.take i ++ a :: l.drop i
noncomputable def ringL (r : Nat) : List (Nat × Nat) := [[(0, 6)], [(0, 3), (3, 6)], [(0, 5)], [(0, 4)], [(0, 3)]].getD r []
noncomputable def awayL (o : List Nat) (r : Nat) : List (Nat × Nat) := (ringL r).flatMap fun p => (List.range (p.2 - p.1)).map fun i => (o.getD (p.1 + i) 0, o.getD (if p.1 + i + 1 < p.2 then p.1 + i + 1 else p.1) 0)
noncomputable def tieL (aw : List (Nat × Nat)) (i : Nat) : List Nat := (List.range 6).filter fun j => !(j == i) && (!aw.contains (i, j) && !aw.contains (j, i))
noncomputable def growL (T : Nat → List Nat) (l : List (List Nat)) : List (List Nat) := l.flatMap fun p => ((T (p.getLastD 0)).filter fun j => !p.contains j).map fun j => p ++ [j]
structure Tot where
  rounds : Nat
  count : Nat
  sum : Nat
  sq : Nat
  tab : List (Nat × Nat)
noncomputable def bumpN : List (Nat × Nat) → Nat → List (Nat × Nat)
  | [], k => [(k, 1)]
  | (j, c) :: r, k => if j == k then (j, c + 1) :: r else (j, c) :: bumpN r k
noncomputable def pairsN (p : List Nat) : List Nat := (p.zip (p.tail ++ p.take 1)).map fun q => 6 * q.1 + q.2
noncomputable def addT (T : Nat → List Nat) (a : Nat) (ls : List (List Nat)) (t : Tot) (p : List Nat) : Tot :=
  let i := ls.idxOf p
  let c := (T (p.getD 5 0)).contains a
  ⟨t.rounds + (if c then 1 else 0), t.count + 1, t.sum + i, t.sq + i * i, if c then (pairsN p).foldl bumpN t.tab else t.tab⟩
noncomputable def getN (l : List (Nat × Nat)) (k : Nat) : Nat := match l with
  | [] => 0
  | (j, c) :: r => if j == k then c else getN r k
end Mine
end
section
open PySem PySem.W PyProof.Rows
namespace Mine
noncomputable def nmA (low i : Nat) : Str := nmF (low + i)
noncomputable def knownL : List Str := flagT.map (·.2)
noncomputable def knownS : Str := ⟨#[79, 80, 84, 73, 77, 73, 90, 69, 68, 32, 78, 69, 87, 76, 79, 67, 65, 76, 83, 32, 86, 65, 82, 65, 82, 71, 83, 32, 86, 65, 82, 75, 69, 89, 87, 79, 82, 68, 83, 32, 78, 69, 83, 84, 69, 68, 32, 71, 69, 78, 69, 82, 65, 84, 79, 82, 32, 78, 79, 70, 82, 69, 69, 32, 67, 79, 82, 79, 85, 84, 73, 78, 69, 32, 73, 84, 69, 82, 65, 66, 76, 69, 95, 67, 79, 82, 79, 85, 84, 73, 78, 69, 32, 65, 83, 89, 78, 67, 95, 71, 69, 78, 69, 82, 65, 84, 79, 82]⟩
theorem known_ok : (Nat.ble knownS.length 16777216 && Nat.ble (Builtin.Str.spaceWords knownS (knownS.length + 1)).length 16777216) = true ∧ Txt.words knownS = knownL := by decide +kernel
theorem nm_lo : ∀ p < 10, knownL[p]? = some (nmF p) := by decide +kernel
theorem nm_hi : ∀ p < 33, 10 ≤ p → nmF p = mkS ([48, 120, [49, 50, 52, 56].getD (p % 4) 0] ++ List.replicate (p / 4) 48) := by decide +kernel
noncomputable def namD (low : Nat) : D := .lst ((List.range 6).map fun i => .str (nmA low i))
theorem nm_lt {p : Nat} : decide ((p : Int) < 10) = decide (p < 10) := decide_eq_decide.mpr (by omega)
theorem rep0 (n : Nat) : reps n (⟨#[48]⟩ : Str) = mkS (List.replicate n 48) := by
  unfold reps
  exact Str.ext' (Array.toList_inj.mp (by simp [mkS, List.flatten_replicate_singleton]))
theorem nm_dig {p : Nat} {σ : St} : IdxOk σ (.str ⟨#[49, 50, 52, 56]⟩) (.int ((p % 4 : Nat) : Int)) (.str (mkS [[49, 50, 52, 56].getD (p % 4) 0])) := by
  have := Nat.mod_lt p (show 0 < 4 by decide)
  generalize p % 4 = r at this
  exact idx_str (x := ⟨#[49, 50, 52, 56]⟩) (c := [49, 50, 52, 56].getD r 0) (by match r, this with
    | 0, _ => rfl
    | 1, _ => rfl
    | 2, _ => rfl
    | 3, _ => rfl) (by omega)
section
variable {C : Cx} {A : Around} {env : Env} {σ σ' : St} {d s a b c : D} {ns ds : List Nat} {low : Nat}
theorem lw_4 (Q : Pr C) (hl : low < 28) (h : TR (.fn C A 8 fd16 env) (lwR [some s, some a, some b, some c, some (.int (low : Nat)), some (.lst (knownL.map .str)), some (namD low)]) (execs (lwB 6) env) σ d σ') : TR (.fn C A 8 fd16 env) (lwR [some s, some a, some b, some c, some (.int (low : Nat))]) (execs (lwB 4) env) σ d σ' := by
  refine TR_cons (TS_asg (i := 5) (TE.val (TE_split0 (x := knownS) (Nat.le_of_ble_eq_true (Bool.and_eq_true_iff.mp known_ok.1).1) (Nat.le_of_ble_eq_true (Bool.and_eq_true_iff.mp known_ok.1).2) TE_str) (congrArg (fun l : List Str => D.lst (l.map .str)) known_ok.2)) rfl rfl rfl) ?_
  refine TR_cons (TS_lm0 6 [8] (fun i : Nat => .int ((low : Int) + i)) (fun i => .str (nmA low i)) (List.range 6) (TI_range2 (a := low) (n := 6) Q.G.range (by kernel_rfl) rfl (a2 (tv 4 rfl) (TE_bin (tv 4 rfl) TE_int bin_add)) (by omega)) rfl (by decide) (fun cenv i m => ⟨.v (i := 8) rfl rfl, .set rfl, ?_⟩) rfl rfl) h
  have hi := List.mem_range.mp m
  have hp : low + i < 33 := by omega
  have hc : ((low : Int) + i) = ((low + i : Nat) : Int) := rfl
  rw [hc]
  refine TE_ite (q := decide (low + i < 10)) (TB.to (TB_cmp (tv 8 rfl) TE_int cmp_lt rfl) nm_lt) (fun hq => TE_idx (tv 5 rfl) (tv 8 rfl) (idx_lst (.z _) (by rw [List.getElem?_map, nm_lo _ (of_decide_eq_true hq)]; rfl) (by omega))) fun hq => ?_
  have hq := of_decide_eq_false hq
  exact TE.val (TE_bin (TE_bin TE_str (TE_idx TE_str (TE.val (TE_bin (tv 8 rfl) TE_int (bin_fmod (by decide))) (congrArg D.int (fmod_nat _ 4))) nm_dig) (bin_cat (a := [48, 120]) (Nat.le_of_ble_eq_true rfl))) (TE.val (TE_bin TE_str (TE.val (TE_bin (tv 8 rfl) TE_int (bin_fdiv (by decide) (by decide))) (congrArg D.int (fdiv_nat _ 4))) (bin_muls rfl (Int.natCast_nonneg _) (by omega))) (congrArg D.str (rep0 _))) (bin_cat (by rw [Int.toNat_natCast, List.length_replicate]; show 3 + _ ≤ _; omega))) (by rw [Int.toNat_natCast]; exact congrArg D.str (nm_hi _ hp (by omega)).symm)
end
noncomputable def ordN (n : Nat) (l : List (Nat × Nat)) : List Nat := l.foldl (fun o x => insN o (n / x.1 % (x.2 + 1)) x.2) []
noncomputable abbrev ordP : List (Nat × Nat) := [1, 1, 2, 6, 24, 120].zipIdx
theorem insN_len (l : List Nat) (i a : Nat) (h : i ≤ l.length) : (insN l i a).length = l.length + 1 := by
  unfold insN
  rw [List.length_append, List.length_take, List.length_cons, List.length_drop]; omega
theorem insN_D (l : List Nat) (i a : Nat) : (natD l).take i ++ D.int (a : Nat) :: (natD l).drop i = natD (insN l i a) := by
  unfold natD insN
  rw [List.map_append, List.map_cons, List.map_take, List.map_drop]
structure OrdAt (n : Nat) (done : List (Nat × Nat)) (x : Nat × Nat) : Prop where
  l : (ordN n done).length = x.2
  k : x.2 = done.length
  p : x.1 ≠ 0 ∧ x.1 ≤ 120
  s : x.2 < 6
theorem ord_len (n : Nat) : ∀ k, k ≤ 6 → (ordN n (ordP.take k)).length = k
  | 0, _ => rfl
  | k + 1, h => by
    have hk : k < ordP.length := h
    have ih := ord_len n k (Nat.le_of_succ_le h)
    have e : (ordP[k]).2 = k := by rw [List.getElem_zipIdx]; exact Nat.zero_add k
    rw [List.take_succ_eq_append_getElem hk]
    unfold ordN at ih ⊢
    rw [List.foldl_append]
    show (insN _ _ _).length = _
    rw [insN_len _ _ _ (by rw [ih, e]; exact Nat.le_of_lt_succ (Nat.mod_lt _ (Nat.succ_pos _))), ih]
theorem ord_at (n : Nat) (done : List (Nat × Nat)) (x : Nat × Nat) (todo : List (Nat × Nat)) (e : ordP = done ++ x :: todo) : OrdAt n done x := by
  have hx : x ∈ ordP := e ▸ List.mem_append_right _ (.head _)
  have hl := congrArg List.length e
  rw [List.length_append, List.length_cons, show ordP.length = 6 from rfl] at hl
  have hd : ordP.take done.length = done := by rw [e, List.take_left]
  have h1 := ord_len n done.length (by omega)
  rw [hd] at h1
  have hg : ordP[done.length]? = some x := by rw [e, List.getElem?_append_right (Nat.le_refl _), Nat.sub_self]; rfl
  have hk : x.2 = done.length := by
    rw [List.getElem?_zipIdx] at hg
    obtain ⟨z, u1, q⟩ := Option.map_eq_some_iff.mp hg
    rw [← q]; exact Nat.zero_add _
  exact ⟨h1.trans hk.symm, hk, (by decide : ∀ x ∈ ordP, x.1 ≠ 0 ∧ x.1 ≤ 120) x hx, (by decide : ∀ x ∈ ordP, x.2 < 6) x hx⟩
section
variable {C : Cx} {A : Around} {env : Env} {σ σ' : St} {d s a b c e f : D} {ns ds : List Nat} {low : Nat}
theorem lw_6 (Q : Pr C) (hn : ns.length = 3) (h : TR (.fn C A 8 fd16 env) (lwR [some s, some (.lst (natD ns)), some a, some b, some c, some e, some f, some (.lst (natD (ordN (ns.getD 0 0) ordP)))]) (execs (lwB 8) env) (σ ++ [.dead]) d σ') : TR (.fn C A 8 fd16 env) (lwR [some s, some (.lst (natD ns)), some a, some b, some c, some e, some f]) (execs (lwB 6) env) σ d σ' := by
  refine TR_cons (TS_asg (i := 7) ((TP_list an (Nat.zero_le _)).loc made_L) rfl rfl rfl) ?_
  refine TR_cons (TS_for (TI_enum (d := .tup ([1, 1, 2, 6, 24, 120].map fun n : Nat => .int n)) Q.G.enum (by kernel_rfl) (TE_tuple (ac TE_int (ac TE_int (ac TE_int (ac TE_int (ac TE_int (a1 TE_int)))))) (Nat.le_of_ble_eq_true rfl)) enum_tup) (Run.scan0 (e := fun x : Nat × Nat => .tup [.int (x.2 : Nat), .int (x.1 : Nat)]) (R := fun u0 => lwR [some s, some (.lst (natD ns)), some a, some b, some c, some e, some f, some (.loc σ.length)]) (S := fun l => σ ++ [.lst (natD (ordN (ns.getD 0 0) l))]) ordP (enumD_map _ _) fun done x todo he => ?_)) (TR.frz 7 rfl at_len (.lst _) (by rw [set_len]; exact h))
  have o := ord_at (ns.getD 0 0) done x todo he
  have hi : ns.getD 0 0 / x.1 % (x.2 + 1) ≤ (natD (ordN (ns.getD 0 0) done)).length := by
    rw [natD, List.length_map, o.l]; exact Nat.le_of_lt_succ (Nat.mod_lt _ (Nat.succ_pos _))
  refine ⟨_, _, .t (.cons (i := 8) rfl rfl (.cons (i := 9) rfl rfl (.nil _))), .inl rfl, TS_cons (TS.st (TS_ex (TE_insert (i := ns.getD 0 0 / x.1 % (x.2 + 1)) at_len at_len hi (by rw [natD, List.length_map, o.l]; have := o.s; omega) (tv 7 rfl) (a2 (TE.val (TE_bin (TE_bin (TE_idx (tv 1 rfl) TE_int (nat_at (i := 0) (by omega) (by decide))) (tv 9 rfl) (bin_fdiv (by have := o.p.1; omega) (by have := o.p.2; omega))) (TE_bin (tv 8 rfl) TE_int bin_add) (bin_fmod (by omega))) ?_) (tv 8 rfl)))) ?_) (TS_nilf [8, 9])⟩
  · rw [fdiv_nat]; exact congrArg D.int (fmod_nat _ (x.2 + 1))
  · rw [set_len, insN_D]
    unfold ordN
    rw [List.foldl_append]; rfl
end
end Mine
end
section
open PySem PySem.W PyProof.Rows
namespace Mine
noncomputable def pairD (p : Nat × Nat) : D := .tup [.int (p.1 : Nat), .int (p.2 : Nat)]
noncomputable def ringD (r : Nat) : D := .tup ((ringL r).map pairD)
theorem ring_ok : ∀ r < 5, ∀ p ∈ ringL r, p.1 < p.2 ∧ p.2 ≤ 6 := by decide
noncomputable def pairP (p : Nat × Nat) : PyData := .tuple [.int (p.1 : Nat), .int (p.2 : Nat)]
theorem pair_rd {σ : St} {p : Nat × Nat} : Rd σ (pairD p) (pairP p) := rd_tup (rdL_cons rd_int (rdL_cons rd_int rdL_nil))
theorem pair_eqv (p q : Nat × Nat) : PyData.eqv (pairP p) (pairP q) = (p == q) := by
  obtain ⟨a, b⟩ := p
  obtain ⟨c, d⟩ := q
  show PyData.eqv (.tuple [.int (a : Nat), .int (b : Nat)]) (.tuple [.int (c : Nat), .int (d : Nat)]) = _
  simp only [PyData.eqv, PyData.eqvAll]
  exact Bool.eq_iff_iff.mpr (by simp; omega)
theorem pairs_lay : ∀ l : List (Nat × Nat), PyData.canLayAll0 (l.map pairP) = true
  | [] => by unfold PyData.canLayAll0; rfl
  | p :: l => by
    rw [List.map_cons]
    unfold PyData.canLayAll0
    rw [pairs_lay l]
    unfold pairP PyData.canLay0 PyData.canLayAll0
    rfl
theorem any_pair (p : Nat × Nat) : ∀ l : List (Nat × Nat), (l.map pairP).any (fun q => PyData.eqv q (pairP p)) = l.contains p
  | [] => rfl
  | q :: l => by
    rw [List.map_cons, List.any_cons, List.contains_cons, any_pair p l, pair_eqv]
    exact congrArg (· || _) (Bool.eq_iff_iff.mpr (by rw [beq_iff_eq, beq_iff_eq]; exact eq_comm))
theorem nin_pair {σ : St} {l : List (Nat × Nat)} {p : Nat × Nat} : CmpOk σ .NotIn (pairD p) (.lst (l.map pairD)) (!l.contains p) :=
  any_pair p l ▸ cmp_ninD pair_rd (rd_lst (.z _) (rdL_map fun q m => pair_rd)) (pairs_lay l) (by unfold pairP; simp [PyData.canLay0, PyData.canLayAll0]) (by unfold pairP; simp [PyData.depth, PyData.depthAll])
noncomputable def awD (l : List (Nat × Nat)) : D := .lst (l.map pairD)
noncomputable def tieD (T : Nat → List Nat) : D := .lst ((List.range 6).map fun i => .lst (natD (T i)))
theorem away_D (o : List Nat) (r : Nat) : ((ringL r).flatMap fun p => (((List.range (p.2 - p.1)).map (p.1 + ·)).filter fun u0 => true).map fun j => pairD (o.getD j 0, o.getD (if j + 1 < p.2 then j + 1 else p.1) 0)) = (awayL o r).map pairD := by
  unfold awayL
  rw [List.map_flatMap]
  congr 1
  funext p
  rw [List.filter_eq_self.mpr fun u0 u0 => rfl, List.map_map, List.map_map]; rfl
theorem away_len (o : List Nat) {r : Nat} (h : r < 5) : (awayL o r).length ≤ 12 := by
  unfold awayL
  rw [List.length_flatMap]
  have : (ringL r).map (fun p => ((List.range (p.2 - p.1)).map fun i => (o.getD (p.1 + i) 0, o.getD (if p.1 + i + 1 < p.2 then p.1 + i + 1 else p.1) 0)).length) = (ringL r).map fun p => p.2 - p.1 := List.map_congr_left fun p u0 => by rw [List.length_map, List.length_range]
  rw [this]
  exact (by decide : ∀ r < 5, ((ringL r).map fun p => p.2 - p.1).sum ≤ 12) r h
section
variable {C : Cx} {A : Around} {env : Env} {σ σ' : St} {d s a b c e f : D} {ns ds o : List Nat} {aw : List (Nat × Nat)} {v r : Nat}
noncomputable def lwX (s a b c e f : D) (ds o : List Nat) (v : Nat) (l : List (Option D)) : Rho := lwR ([some s, some a, some (.lst (natD ds)), some (.str (mkS (sgn6 v))), some b, some c, some e, some (.lst (natD o)), none, none] ++ l)
theorem lw_8 (Q : Pr C) (hd : ds.length = 12) (hr : r = ds.getD 7 0 % 5) (h : TR (.fn C A 8 fd16 env) (lwX s a b c e f ds o v [some (ringD r)]) (execs (lwB 9) env) σ d σ') : TR (.fn C A 8 fd16 env) (lwX s a b c e f ds o v []) (execs (lwB 8) env) σ d σ' := by
  have hm := Nat.mod_lt (ds.getD 7 0) (show 0 < 5 by decide)
  refine TR_cons (TS_asg (i := 10) (d := ringD r) (TE_idx (TE_tuple (ac (TE_tuple (a1 (TE_tuple (a2 TE_int TE_int) (Nat.le_of_ble_eq_true rfl))) (Nat.le_of_ble_eq_true rfl)) (ac (TE_tuple (a2 (TE_tuple (a2 TE_int TE_int) (Nat.le_of_ble_eq_true rfl)) (TE_tuple (a2 TE_int TE_int) (Nat.le_of_ble_eq_true rfl))) (Nat.le_of_ble_eq_true rfl)) (ac (TE_tuple (a1 (TE_tuple (a2 TE_int TE_int) (Nat.le_of_ble_eq_true rfl))) (Nat.le_of_ble_eq_true rfl)) (ac (TE_tuple (a1 (TE_tuple (a2 TE_int TE_int) (Nat.le_of_ble_eq_true rfl))) (Nat.le_of_ble_eq_true rfl)) (a1 (TE_tuple (a1 (TE_tuple (a2 TE_int TE_int) (Nat.le_of_ble_eq_true rfl))) (Nat.le_of_ble_eq_true rfl))))))) (Nat.le_of_ble_eq_true rfl))
    (TE.val (TE_bin (TE_idx (tv 2 rfl) TE_int (nat_at (i := 7) (by omega) (by decide))) TE_int (bin_fmod (by decide))) (congrArg D.int (fmod_nat _ 5))) (idx_tup (by
    subst hr
    generalize ds.getD 7 0 % 5 = v at hm
    match v, hm with
    | 0, _ => rfl
    | 1, _ => rfl
    | 2, _ => rfl
    | 3, _ => rfl
    | 4, _ => rfl) (by omega))) rfl rfl rfl) h
theorem lw_9 (Q : Pr C) (ho : o.length = 6) (hr : r < 5) (h : TR (.fn C A 8 fd16 env) (lwX s a b c e f ds o v [some (ringD r), some (awD (awayL o r))]) (execs (lwB 10) env) σ d σ') : TR (.fn C A 8 fd16 env) (lwX s a b c e f ds o v [some (ringD r)]) (execs (lwB 9) env) σ d σ' := by
  refine TR_cons (TS_asgs (i := 11) (d := awD (awayL o r)) (TE.val (TP.rest made_L (TP_ll (B := 6) [40, 41, 8] pairD (fun p => (List.range (p.2 - p.1)).map (p.1 + ·)) (fun j => .int (j : Nat)) (fun p j => pairD (o.getD j 0, o.getD (if j + 1 < p.2 then j + 1 else p.1) 0)) (fun u0 u0 => true) (ringL r) (TI_of (tv 10 rfl) iter_tup) rfl (fun p m => by rw [List.length_map, List.length_range]; have := (ring_ok r hr p m).2; omega) (by rw [away_D, List.length_map]; have := away_len o hr; omega) fun cenv p m => ?_)) (congrArg D.lst (away_D o r))) rfl rfl _) h
  have hp := ring_ok r hr p m
  have e1 : (p.2 : Int) = (p.1 : Int) + ((p.2 - p.1 : Nat) : Int) := by omega
  refine ⟨.t (.cons (i := 40) rfl rfl (.cons (i := 41) rfl rfl (.nil _))), (Le.set rfl).trans (.set rfl), by rw [List.map_map]; exact TI_range2 (a := p.1) (n := p.2 - p.1) Q.G.range (by kernel_rfl) rfl (a2 (tv 40 rfl) (TE.val (tv 41 rfl) (congrArg D.int e1))) (by omega), fun j mj => ⟨.v (i := 8) rfl rfl, .set rfl, TT_nil, fun u0 => ?_⟩⟩
  obtain ⟨i, mi, rfl⟩ := List.mem_map.mp mj
  have hi := List.mem_range.mp mi
  refine TE_tuple (a2 (TE_idx (tv 7 rfl) (tv 8 rfl) (nat_at (by omega) (by omega))) (TE_idx (tv 7 rfl) (TE_ite (d := .int ((if p.1 + i + 1 < p.2 then p.1 + i + 1 else p.1 : Nat) : Int)) (q := decide (p.1 + i + 1 < p.2)) (TB.to (TB_cmp (TE_bin (tv 8 rfl) TE_int bin_add) (tv 41 rfl) cmp_lt rfl) (decide_eq_decide.mpr (by omega))) (fun q => TE.val (TE_bin (tv 8 rfl) TE_int bin_add) (by rw [if_pos (of_decide_eq_true q)]; rfl)) (fun q => TE.val (d := .int (p.1 : Nat)) (tv 40 rfl) (by rw [if_neg (of_decide_eq_false q)]))) (nat_at (by split <;> omega) (by split <;> omega)))) (Nat.le_of_ble_eq_true rfl)
theorem lw_10 (Q : Pr C) (hw : aw.length ≤ 12) (h : TR (.fn C A 8 fd16 env) (lwX s a b c e f ds o v [some (ringD r), some (awD aw), some (tieD (tieL aw)), some (.loc σ.length)]) (execs (lwB 12) env) (σ ++ [.lst []]) d σ') : TR (.fn C A 8 fd16 env) (lwX s a b c e f ds o v [some (ringD r), some (awD aw)]) (execs (lwB 10) env) σ d σ' := by
  refine TR_cons (TS_asgs (i := 12) (d := tieD (tieL aw)) (TP.rest made_L (TP_lm [14] (fun i : Nat => .int (i : Nat)) (fun i => .lst (natD (tieL aw i))) (List.range 6) (TI_range1 (n := 6) Q.G.range (by kernel_rfl) rfl (a1 TE_int) (by decide)) rfl (by decide) fun cenv i m => ⟨.v (i := 14) rfl rfl, .set rfl, TP.rest made_L (TP_lf [23] (fun j : Nat => .int (j : Nat)) (fun j => .int (j : Nat)) (fun j => !(j == i) && (!aw.contains (i, j) && !aw.contains (j, i))) (List.range 6) (TI_range1 (n := 6) Q.G.range (by kernel_rfl) rfl (a1 TE_int) (by decide)) rfl (by decide) fun cenv' j mj => ⟨.v (i := 23) rfl rfl, .set rfl, TT_one (TB.to (TB_boolop (TB_and (TB_cmp (tv 23 rfl) (tv 14 rfl) cmp_nei rfl) (TB_and (TB_cmp (TE_tuple (a2 (tv 14 rfl) (tv 23 rfl)) (Nat.le_of_ble_eq_true rfl)) (tv 11 rfl) (nin_pair (p := (i, j))) rfl) (TB_and (TB_cmp (TE_tuple (a2 (tv 23 rfl) (tv 14 rfl)) (Nat.le_of_ble_eq_true rfl)) (tv 11 rfl) (nin_pair (p := (j, i))) rfl) TB_and_nil)))) ?_), fun u0 => tv 23 rfl⟩)⟩)) rfl rfl _) ?_
  · rw [Bool.and_true]
    exact congrArg (fun q => !q && _) (Bool.eq_iff_iff.mpr (by rw [beq_iff_eq, beq_iff_eq]; omega))
  · exact TR_cons (TS_asg (i := 13) ((TP_list an (Nat.zero_le _)).loc made_L) rfl rfl rfl) h
end
end Mine
end
section
open PySem PySem.W PyProof.Rows
namespace Mine
theorem sum_le_mul {f : Nat → Nat} {B : Nat} : ∀ {l : List Nat}, (∀ i ∈ l, f i ≤ B) → (l.map f).sum ≤ l.length * B
  | [], _ => Nat.zero_le _
  | a :: l, h => by
    rw [List.length_cons, Nat.succ_mul, Nat.add_comm]
    exact Nat.add_le_add (h a (.head _)) (sum_le_mul fun i m => h i (.tail _ m))
theorem valF_int (l : List Nat) : (l.map fun p => ((2 ^ p : Nat) : Int)).sum = ((valF l : Nat) : Int) := by
  unfold valF
  induction l with
  | nil => rfl
  | cons a l ih => simp only [List.map_cons, List.sum_cons, ih]; omega
theorem encO_len : ∀ l : List (Nat × Nat), (encO l).length = l.length
  | [] => rfl
  | _ :: l => congrArg (· + 1) (encO_len l)
theorem encO_lt {l : List (Nat × Nat)} (h : ∀ q ∈ l, okO q) : ∀ x ∈ encO l, x < 256 := by
  induction l with
  | nil => intro x m; cases m
  | cons p l ih =>
    intro x m
    rcases List.mem_cons.mp m with rfl | m
    · have := h p (.head _); have := mkO_lt l; unfold okO at *; unfold obt; omega
    · exact ih (fun q m => h q (.tail _ m)) x m
noncomputable def wrdD (W : List (List Nat)) : List D := W.map fun s => .str (mkS s)
theorem chr_flat : ∀ o : List Nat, (o.map fun c => [c]).flatten = o
  | [] => rfl
  | c :: o => congrArg (c :: ·) (chr_flat o)
noncomputable def txtL (W : List (List Nat)) (k : Nat) : List Nat := (W.zipIdx.map fun x => spell x.1 (k / (x.2 + 1))).flatten
theorem spell_len (word : List Nat) (w : Nat) : (spell word w).length ≤ 2 * word.length + 4 := by
  have h1 := escL_len w word 0
  have h2 := encW_len (escL w word 0)
  have h3 := gapL_len w
  unfold spell
  split
  · rw [List.length_cons, List.length_append, List.length_cons]; omega
  · rw [List.length_append]; omega
noncomputable def txt (n6 : Nat) : List (List Nat) → Nat → List Nat
  | [], _ => []
  | w :: ws, i => spell w (n6 / (i + 1)) ++ txt n6 ws (i + 1)
theorem txt_zip (n6 : Nat) : ∀ (ws : List (List Nat)) (i : Nat), ((ws.zipIdx i).map fun p => spell p.1 (n6 / (p.2 + 1))).flatten = txt n6 ws i
  | [], _ => rfl
  | w :: ws, i => by
    rw [List.zipIdx_cons, List.map_cons, List.flatten_cons, txt_zip n6 ws (i + 1)]; rfl
noncomputable def flgN (T : Nat → List Nat) (low i : Nat) : Nat := valF ((T i).map (low + ·))
noncomputable def octN (T : Nat → List Nat) (low n i : Nat) : List Nat := encO (octP (flgN T low i) (n / (i + 1)))
noncomputable def wrdF (s : Nat → Nat) (T : Nat → List Nat) (low n : Nat) (l : List Nat) : List (List Nat) := l.flatMap fun i => [[s i], octN T low n i]
structure TOk (T : Nat → List Nat) : Prop where
  lt : ∀ i < 6, ∀ j ∈ T i, j < 6
  len : ∀ i < 6, (T i).length ≤ 6
  ne : ∀ i < 6, T i ≠ []
  up : ∀ i < 6, (T i).Pairwise (· < ·)
theorem flgN_lt {T : Nat → List Nat} (h : TOk T) {low i : Nat} (hl : low < 28) (hi : i < 6) : flgN T low i < 64 ^ 6 := by
  unfold flgN valF
  have h1 : (((T i).map (low + ·)).map (2 ^ ·)).sum ≤ ((T i).map (low + ·)).length * 2 ^ 32 := sum_le_mul fun p m => by
    obtain ⟨j, mj, rfl⟩ := List.mem_map.mp m
    exact Nat.pow_le_pow_right (by decide) (by have := h.lt i hi j mj; omega)
  rw [List.length_map] at h1
  exact Nat.lt_of_le_of_lt (Nat.le_trans h1 (Nat.mul_le_mul_right _ (h.len i hi))) (by decide)
theorem octN_ok {T : Nat → List Nat} (h : TOk T) {low n i : Nat} (hl : low < 28) (hi : i < 6) : (∀ x ∈ octN T low n i, x < 256) ∧ (octN T low n i).length ≤ 6 ∧ octN T low n i ≠ [] := by
  obtain ⟨p, r, e1, e2, e3, e4⟩ := octP_ok (flgN T low i) (n / (i + 1)) (flgN_lt h hl hi)
  unfold octN
  exact ⟨encO_lt e4, by rw [encO_len, e1]; exact Nat.succ_le_succ e2, by rw [e1]; exact List.cons_ne_nil _ _⟩
end Mine
end
section
open PySem PySem.W PyProof.Rows
namespace Mine
noncomputable def ptSt (σ : St) (W : List (List Nat)) (k : Nat) : St := σ ++ [.lst (wrdD W)] ++ List.replicate k .dead
theorem ptSt_at {σ : St} {W : List (List Nat)} {k : Nat} : (ptSt σ W k)[σ.length]? = some (.lst (wrdD W)) := at_apps at_len
theorem ptSt_set {σ : St} {W W' : List (List Nat)} {k : Nat} : (ptSt σ W k ++ [AO.dead]).set σ.length (.lst (wrdD W')) = ptSt σ W' (k + 1) := by
  unfold ptSt
  rw [List.append_assoc, List.set_append_left _ _ (by rw [List.length_append]; exact Nat.lt_succ_self _), set_len, List.replicate_succ']
theorem wrdD_app (a b : List (List Nat)) : wrdD a ++ wrdD b = wrdD (a ++ b) := List.map_append.symm
theorem wrdF_len {s : Nat → Nat} {T : Nat → List Nat} {low n : Nat} : ∀ l : List Nat, (wrdF s T low n l).length = 2 * l.length
  | [] => rfl
  | i :: l => by
    show ([[s i], octN T low n i] ++ wrdF s T low n l).length = _
    rw [List.length_append, wrdF_len l]
    show 2 + _ = 2 * (l.length + 1)
    omega
theorem tie_at {T : Nat → List Nat} {i : Nat} {σ : St} (hi : i < 6) : IdxOk σ (tieD T) (.int (i : Nat)) (.lst (natD (T i))) := idx_lst (.z _) (by rw [List.getElem?_map, List.getElem?_range hi]; rfl) (by omega)
theorem sgn_at {v i : Nat} {σ : St} (hi : i < 6) : IdxOk σ (.str (mkS (sgn6 v))) (.int (i : Nat)) (.str (mkS [sgnF v i])) := idx_str (x := mkS (sgn6 v)) (c := sgnF v i) (by
  show (sgn6 v).toArray[i]? = _
  rw [List.getElem?_toArray, sgn6_map, List.getElem?_map, List.getElem?_range hi]; rfl) (by omega)
section
variable {C : Cx} {A : Around} {env : Env} {σ σ' : St} {d s b c e f rg aw : D} {ns ds o : List Nat} {v r low n : Nat} {T : Nat → List Nat}
noncomputable def lwY (s b c e f rg aw : D) (ns ds o : List Nat) (v : Nat) (T : Nat → List Nat) (l : List (Option D)) : Rho := lwX s (.lst (natD ns)) b c e f ds o v ([some rg, some aw, some (tieD T)] ++ l)
theorem lw_12 (Q : Pr C) (hT : TOk T) (hn : ns.length = 3) (hl : low < 28) (hb : b = .int (low : Nat))
    (h : TR (.fn C A 8 fd16 env) (lwY s b c e f rg aw ns ds o v T [some (.loc σ.length)]) (execs (lwB 13) env) (ptSt σ (wrdF (sgnF v) T low (ns.getD 2 0) (List.range 6)) 6) d σ') :
    TR (.fn C A 8 fd16 env) (lwY s b c e f rg aw ns ds o v T [some (.loc σ.length)]) (execs (lwB 12) env) (σ ++ [.lst []]) d σ' := by
  refine TR_cons (TS_for (TI_range1 (n := 6) Q.G.range (by kernel_rfl) rfl (a1 TE_int) (by decide)) (Run.start (σ := ptSt σ (wrdF (sgnF v) T low (ns.getD 2 0) []) ([] : List Nat).length) (List.append_nil _) (Run.scan0 (R := fun u0 => lwY s b c e f rg aw ns ds o v T [some (.loc σ.length)]) (S := fun l => ptSt σ (wrdF (sgnF v) T low (ns.getD 2 0) l) l.length) (e := fun i : Nat => .int (i : Nat)) (List.range 6) rfl fun done i todo he => ?_))) h
  have hi : i < 6 := List.mem_range.mp (by rw [he]; exact List.mem_append_right _ (.head _))
  have hdl : done.length ≤ 6 := by have := congrArg List.length he; rw [List.length_range, List.length_append] at this; omega
  have ho := octN_ok (n := ns.getD 2 0) hT hl hi
  have hW : (wrdD (wrdF (sgnF v) T low (ns.getD 2 0) done)).length ≤ 12 := by rw [wrdD, List.length_map, wrdF_len]; omega
  have hoD : (octN T low (ns.getD 2 0) i).map (fun c => D.str ⟨#[c]⟩) = (((octN T low (ns.getD 2 0) i).map fun c => [c]).map mkS).map .str := by rw [List.map_map, List.map_map]; rfl
  have hf : wrdF (sgnF v) T low (ns.getD 2 0) (done ++ [i]) = wrdF (sgnF v) T low (ns.getD 2 0) done ++ [[sgnF v i], octN T low (ns.getD 2 0) i] := by unfold wrdF; rw [List.flatMap_append]; rfl
  rw [hf, List.length_append]
  refine ⟨_, _, .v (i := 14) rfl rfl, .inl rfl, TS_cons (TS_asg (i := 15) (d := .lst (natD (octN T low (ns.getD 2 0) i))) (call Q.F14 (octets_fn Q.G Q.F14 (c := flgN T low i) (w := ns.getD 2 0 / (i + 1))) (a2 (TE.val (TE_bi Q.G.sum (by kernel_rfl) rfl rfl (a1 (TP.rest made_L (TP_lm [23] (fun j : Nat => .int (j : Nat)) (fun j => .int ((2 ^ (low + j) : Nat) : Int)) (T i) (TI_of (TE_idx (tv 12 rfl) (tv 14 rfl) (tie_at hi)) iter_lst) rfl (Nat.le_trans (hT.len i hi) (by decide)) fun cenv j m =>
    ⟨.v (i := 23) rfl rfl, .set rfl, TE.val (TE_bin TE_int (TE_bin (TE.val (tv 4 rfl) hb) (tv 23 rfl) bin_add) (bin_shl (by decide) (by omega) (by have := hT.lt i hi j m; omega))) (shl_nat (low + j))⟩))) fun q r => bi_sum (ns := (T i).map fun j => ((2 ^ (low + j) : Nat) : Int)) (by rw [List.map_map]; exact .z _) q.o.room.handled q.I r) (congrArg D.int ?_))
    (TE.val (TE_bin (TE_idx (tv 1 rfl) TE_int (nat_at (i := 2) (by omega) (by decide))) (TE_bin (tv 14 rfl) TE_int bin_add) (bin_fdiv (by omega) (by omega))) (congrArg D.int (fdiv_nat _ (i + 1)))))) rfl rfl rfl)
    (TS_cons (TS.st (TS_augl (i := 13) (by kernel_rfl) rfl (TE_list (a2 (TE_idx (tv 3 rfl) (tv 14 rfl) (sgn_at hi)) (TE.val (TE_join (sep := mkS []) (ss := ((octN T low (ns.getD 2 0) i).map fun c => [c]).map mkS) (join_ok 1 (fun t m => by obtain ⟨l, q, rfl⟩ := List.mem_map.mp m; obtain ⟨x, u1, rfl⟩ := List.mem_map.mp q; exact Nat.le_refl _) (by rw [List.length_map, List.length_map]; omega)) TE_str (.z _)
    (a1 (TE.val (TP.rest made_L (TP_lm [42] (fun c : Nat => .int (c : Nat)) (fun c => .str ⟨#[c]⟩) (octN T low (ns.getD 2 0) i) (TI_of (tv 15 rfl) iter_lst) rfl (by omega) fun cenv x m => ⟨.v (i := 42) rfl rfl, .set rfl, TE_bi Q.G.chr (by kernel_rfl) rfl rfl (a1 (tv 42 rfl)) fun q r => bi_chr (by have := ho.1 x m; omega) q.I r⟩)) (congrArg D.lst hoD)))) (congrArg D.str ((join_empty _).trans (congrArg mkS (chr_flat _)))))) (Nat.le_of_ble_eq_true rfl)) (at_app ptSt_at) (by show _ + 2 ≤ _; omega) rfl) ?_) (TS_nilf [14, 15]))⟩
  · unfold flgN
    rw [← valF_int, List.map_map]; rfl
  · rw [show wrdD (wrdF (sgnF v) T low (ns.getD 2 0) done) ++ [D.str (mkS [sgnF v i]), D.str (mkS (octN T low (ns.getD 2 0) i))] = wrdD (wrdF (sgnF v) T low (ns.getD 2 0) done ++ [[sgnF v i], octN T low (ns.getD 2 0) i]) from wrdD_app _ [[sgnF v i], octN T low (ns.getD 2 0) i]]
    exact ptSt_set
end
end Mine
end
section
open PySem PySem.W PyProof.Rows
namespace Mine
noncomputable def lexX (ct : Addr) (n : Nat) : Lx := ⟨ct, n + 2, n, n + 1, n + 3⟩
noncomputable def lexT (ct : Addr) (n : Nat) (text : List Nat) : St := [.it (text.map sg), .fo (rdF n), .ins ct ((lexX ct n).fs 1), .lst []]
theorem lexX_nd (ct : Addr) (n : Nat) : (lexX ct n).Nd := ⟨by show n + 2 ≠ n; omega, by show n + 2 ≠ n + 3; omega, by show n + 2 ≠ n + 1; omega, by show n ≠ n + 3; omega, by show n ≠ n + 1; omega, by show n + 3 ≠ n + 1; omega⟩
section
variable {C : Cx} {A : Around} {env : Env} {σ σ' : St} {d s b c e f rg aw : D} {ns ds o : List Nat} {v r low n t : Nat} {T : Nat → List Nat} {W : List (List Nat)} {text : List Nat}
noncomputable def endW : List Nat := [101, 110, 100]
theorem lw_13 (Q : Pr C) (hn : ns.length = 3) (hW : W.length ≤ 100) (hw : ∀ x ∈ W ++ [endW], x.length ≤ 1000) (hp : σ[n]? = some (.lst (wrdD W)))
    (h : TR (.fn C A 8 fd16 env) (lwY s b c e f rg aw ns ds o v T [some (.lst (wrdD W)), none, none, some (.str (mkS (txtL (W ++ [endW]) (ns.getD 2 0))))]) (execs (lwB 14) env) (σ.set n .dead) d σ') :
    TR (.fn C A 8 fd16 env) (lwY s b c e f rg aw ns ds o v T [some (.loc n)]) (execs (lwB 13) env) σ d σ' := by
  have hz : (W ++ [endW]).length ≤ 101 := by rw [List.length_append]; exact Nat.succ_le_succ hW
  have hl : (wrdD W).length = W.length := List.length_map _
  have hss : ((W ++ [endW]).zipIdx.map fun x => D.str (mkS (spell x.1 (ns.getD 2 0 / (x.2 + 1))))) = (((W ++ [endW]).zipIdx.map fun x => spell x.1 (ns.getD 2 0 / (x.2 + 1))).map mkS).map .str := by rw [List.map_map, List.map_map]; rfl
  have hm : ∀ {x : List Nat × Nat}, x ∈ (W ++ [endW]).zipIdx → x.1.length ≤ 1000 ∧ x.2 < 101 := fun {x} m => by
    have := List.mem_zipIdx m
    refine ⟨hw _ ?_, by omega⟩
    rw [this.2.2]; exact List.getElem_mem _
  refine TR.frz 13 rfl hp (.lst _) (TR_cons (TS_asg (i := 16) (d := .str (mkS (txtL (W ++ [endW]) (ns.getD 2 0)))) (TE.val (TE_join (sep := mkS []) (ss := ((W ++ [endW]).zipIdx.map fun x => spell x.1 (ns.getD 2 0 / (x.2 + 1))).map mkS) (join_ok 2004 (fun t m => by
    obtain ⟨l, q, rfl⟩ := List.mem_map.mp m
    obtain ⟨x, q2, rfl⟩ := List.mem_map.mp q
    have := spell_len x.1 (ns.getD 2 0 / (x.2 + 1))
    have := (hm q2).1
    rw [mkS_len, mkS_len]; show _ + 0 ≤ _; omega) (by rw [List.length_map, List.length_map, List.length_zipIdx]; omega)) TE_str (.z _)
    (a1 (TE.val (TP.rest made_L (TP_lm [8, 43] (fun x : List Nat × Nat => .tup [.int (x.2 : Nat), .str (mkS x.1)]) (fun x => .str (mkS (spell x.1 (ns.getD 2 0 / (x.2 + 1))))) (W ++ [endW]).zipIdx (TI_enum Q.G.enum (by kernel_rfl) (TE_bin (tv 13 rfl) (TE_list (a1 (TE_str (x := mkS endW))) (Nat.le_of_ble_eq_true rfl)) (bin_addl (by rw [hl]; show _ + 1 ≤ _; omega))) enum_lst) (by rw [← enumD_map (fun s => .str (mkS s)), List.map_append]; rfl) (by rw [List.length_zipIdx]; omega) fun cenv x m =>
      ⟨.t (.cons (i := 8) rfl rfl (.cons (i := 43) rfl rfl (.nil _))), (Le.set rfl).trans (.set rfl), call Q.F13 (spelled_fn Q.G Q.F13 (hm m).1) (a2 (tv 43 rfl) (TE.val (TE_bin (TE_idx (tv 1 rfl) TE_int (nat_at (i := 2) (by omega) (by decide))) (TE_bin (tv 8 rfl) TE_int bin_add) (bin_fdiv (by omega) (by have := (hm m).2; omega))) (congrArg D.int (fdiv_nat _ (x.2 + 1)))))⟩)) (congrArg D.lst hss)))) (congrArg D.str (join_empty _))) rfl rfl rfl) h)
theorem lw_14 (Q : Pr C) (hl : LamAt C 1 lam1) (F0 : Meth C Q.lx "__init__" (pM 5 0).params (pM 5 0).scope (pM 5 0).body Q.l0) (hz : text.length ≤ 1000000) (ht : σ[t]? = some (.tab Q.p12 []))
    (h : TR (.fn C A 8 fd16 env) (lwY s b c e f rg aw ns ds o v T [some (.lst (wrdD W)), none, none, some (.str (mkS text)), some (.loc (σ.length + 2))]) (execs (lwB 15) env) (σ.set t (.tab Q.p12 lnS) ++ lexT Q.lx σ.length text) d σ') :
    TR (.fn C A 8 fd16 env) (lwY s b c e f rg aw ns ds o v T [some (.lst (wrdD W)), none, none, some (.str (mkS text))]) (execs (lwB 14) env) σ d σ' := by
  have hlen : (σ.set t (.tab Q.p12 lnS) ++ [AO.it (text.map sg), AO.fo (rdF σ.length)]).length = σ.length + 2 := by rw [List.length_append, List.length_set]; rfl
  have hL : (σ.set t (.tab Q.p12 lnS) ++ [AO.it (text.map sg), AO.fo (rdF σ.length)] ++ [AO.ins Q.lx []])[(lexX Q.lx σ.length).L]? = some (.ins Q.lx []) := by
    have q := at_len (l := σ.set t (.tab Q.p12 lnS) ++ [AO.it (text.map sg), AO.fo (rdF σ.length)]) (a := AO.ins Q.lx [])
    rwa [hlen] at q
  have hi := ninit_fn (x := lexX Q.lx σ.length) (σ := σ.set t (.tab Q.p12 lnS) ++ [AO.it (text.map sg), AO.fo (rdF σ.length)] ++ [AO.ins Q.lx []]) Q.G Q.X F0 hL (by rw [List.length_append, hlen]; rfl)
  have hs : (σ.set t (.tab Q.p12 lnS) ++ [AO.it (text.map sg), AO.fo (rdF σ.length)] ++ [AO.ins Q.lx []]).set (lexX Q.lx σ.length).L (.ins Q.lx ((lexX Q.lx σ.length).fs 1)) ++ [AO.lst []] = σ.set t (.tab Q.p12 lnS) ++ lexT Q.lx σ.length text := by
    rw [show (lexX Q.lx σ.length).L = (σ.set t (.tab Q.p12 lnS) ++ [AO.it (text.map sg), AO.fo (rdF σ.length)]).length from hlen.symm, set_len, List.append_assoc, List.append_assoc]; rfl
  exact TR_cons (TS_asg (i := 17) (TE.to (TE_new (j := 1) (by rw [hlen]; exact hi) (Nat.le_of_ble_eq_true rfl) Q.lg Q.lnw (by kernel_rfl) rfl (a1 (call Q.F12 (stream_fn Q.G Q.F12 Q.T12 hl hz ht) (a1 (tv 16 rfl))))) ⟨congrArg D.loc hlen, hs⟩) rfl rfl rfl) h
theorem lw_15 {p q : D} (h : TR (.fn C A 8 fd16 env) (lwY s b c e f rg aw ns ds o v T [some p, none, none, some q, some (.loc t), some (.ds []), some (.loc σ.length)]) (execs (lwB 16) env) (σ ++ [.ds []]) d σ') :
    TR (.fn C A 8 fd16 env) (lwY s b c e f rg aw ns ds o v T [some p, none, none, some q, some (.loc t)]) (execs (lwB 15) env) σ d σ' :=
  TR_cons (TS_asgT0 (TE_tuple (a2 (TP.rest made_D TP_d0) (TP_d0.loc made_D)) (Nat.le_of_ble_eq_true rfl)) (.t (.cons (i := 18) rfl rfl (.cons (i := 19) rfl rfl (.nil _))))) h
end
end Mine
end
section
open PySem PySem.W PyProof.Rows
namespace Mine
section
open PySem.StrLaws PySem.Builtin PySem.Builtin.Str
theorem mkS_of (s : Str) : mkS s.cps.toList = s := rfl
theorem mkS_list (l : List Nat) : (mkS l).cps.toList = l := rfl
theorem glue_go2 (g : Array Nat) : ∀ (ps : List Str) (acc : Array Nat), (ps.foldl (fun acc p => acc ++ g ++ p.cps) acc).toList = acc.toList ++ ps.flatMap fun p => g.toList ++ p.cps.toList
  | [], acc => by simp
  | p :: ps, acc => by
    rw [List.foldl_cons, glue_go2 g ps]
    simp
noncomputable def jn : List (List Nat) → List Nat
  | [] => []
  | [p] => p
  | p :: q :: r => p ++ 44 :: 32 :: jn (q :: r)
theorem jn_flat : ∀ (r : List (List Nat)) (p : List Nat), jn (p :: r) = p ++ r.flatMap fun q => 44 :: 32 :: q
  | [], p => by simp [jn]
  | q :: r, p => by simp [jn, jn_flat r q]
theorem join_comma (ps : List (List Nat)) : Txt.join sComma (ps.map mkS) = mkS (jn ps) := by
  show Builtin.Str.glued sComma _ = _
  unfold Builtin.Str.glued
  cases ps with
  | nil => rfl
  | cons p ps =>
    simp only [List.map_cons, List.drop_succ_cons, List.drop_zero, List.headD_cons]
    unfold mkS
    congr 1
    apply Array.toList_inj.mp
    rw [glue_go2, jn_flat, List.flatMap_map]
    simp [sComma]
theorem at_comma (l : List Nat) (k : Nat) : StrLaws.At (mkS l) sComma (mkS l).length k ↔ l[k]? = some 44 ∧ l[k + 1]? = some 32 := by
  unfold StrLaws.At
  rw [subAt_eq, mkS_list, mkS_len]
  show k + 2 ≤ l.length ∧ ((l.drop k).take 2 == [44, 32]) = true ↔ _
  rw [beq_iff_eq]
  constructor
  · rintro ⟨h1, h2⟩
    have e1 := congrArg (·[0]?) h2
    have e2 := congrArg (·[1]?) h2
    simp at e1 e2
    exact ⟨e1, e2⟩
  · rintro ⟨h1, h2⟩
    have := (List.getElem?_eq_some_iff.mp h2).1
    refine ⟨by omega, ?_⟩
    apply List.ext_getElem?
    intro i
    match i with
    | 0 => simp [h1]
    | 1 => simp [h2]
    | i + 2 => simp [List.getElem?_take]; omega
theorem split_go : ∀ (r : List (List Nat)) (pre p : List Nat) (cuts : List Nat) (f : Nat), (∀ q ∈ p :: r, 44 ∉ q) → ChainG (mkS (pre ++ jn (p :: r))) sComma (mkS (pre ++ jn (p :: r))).length pre.length cuts f →
    (∀ k, f ≤ k → ¬ StrLaws.At (mkS (pre ++ jn (p :: r))) sComma (mkS (pre ++ jn (p :: r))).length k) → partsFrom (mkS (pre ++ jn (p :: r))) 2 pre.length cuts = (p :: r).map mkS ∧ cuts.length = r.length
  | [], pre, p, cuts, f, hp, hG, hn => by
    have hp := hp p (.head _)
    cases cuts with
    | cons c cs =>
      have ⟨h1, h2, _, _⟩ := hG
      rw [at_comma] at h2
      have e := h2.1
      simp only [jn] at e
      rw [List.getElem?_append_right h1] at e
      exact absurd (List.mem_of_getElem? e) hp
    | nil =>
      refine ⟨?_, rfl⟩
      simp only [partsFrom, List.map_cons, List.map_nil, List.cons.injEq, and_true, jn]
      apply Str.ext'
      apply Array.toList_inj.mp
      rw [strSub_toList, mkS_list, mkS_list, mkS_len]
      simp
  | q :: r, pre, p, cuts, f, hp, hG, hn => by
    have h44 := hp p (.head _)
    have hx : pre ++ jn (p :: q :: r) = (pre ++ p ++ [44, 32]) ++ jn (q :: r) := by simp [jn]
    have hat : StrLaws.At (mkS (pre ++ jn (p :: q :: r))) sComma (mkS (pre ++ jn (p :: q :: r))).length (pre.length + p.length) := by
      rw [at_comma]
      constructor
      · simp only [jn]
        rw [← List.append_assoc, List.getElem?_append_right (by simp)]
        simp
      · simp only [jn]
        rw [← List.append_assoc, List.getElem?_append_right (by simp <;> omega)]
        rw [List.length_append, show pre.length + p.length + 1 - (pre.length + p.length) = 1 by omega]; rfl
    cases cuts with
    | nil =>
      have e : f = pre.length := hG
      exact absurd hat (hn _ (by omega))
    | cons c cs =>
      have ⟨h1, h2, h3, h4⟩ := hG
      have hc : c = pre.length + p.length := by
        rcases Nat.lt_trichotomy c (pre.length + p.length) with h | h | h
        · rw [at_comma] at h2
          have e := h2.1
          simp only [jn] at e
          rw [List.getElem?_append_right h1, List.getElem?_append_left (by omega)] at e
          exact absurd (List.mem_of_getElem? e) h44
        · exact h
        · exact absurd hat (h3 _ (by omega) h)
      subst hc
      have hlen : (pre ++ p ++ [44, 32]).length = pre.length + p.length + 2 := by simp; omega
      have hG' : ChainG (mkS ((pre ++ p ++ [44, 32]) ++ jn (q :: r))) sComma (mkS ((pre ++ p ++ [44, 32]) ++ jn (q :: r))).length (pre ++ p ++ [44, 32]).length cs f := by
        rw [hlen, ← hx]; exact h4
      have ⟨r1, r2⟩ := split_go r (pre ++ p ++ [44, 32]) q cs f (fun x m => hp x (.tail _ m)) hG' (by rw [← hx]; exact hn)
      rw [← hx, hlen] at r1
      refine ⟨?_, by simp [r2]⟩
      simp only [partsFrom, List.map_cons] at r1 ⊢
      rw [r1]
      congr 1
      apply Str.ext'
      apply Array.toList_inj.mp
      rw [strSub_toList, mkS_list, mkS_list]
      simp [jn]
theorem comma_split (p : List Nat) (r : List (List Nat)) (h : ∀ q ∈ p :: r, 44 ∉ q) : Txt.split (mkS (jn (p :: r))) sComma = (p :: r).map mkS ∧ Txt.count (mkS (jn (p :: r))) sComma = (r.length : Nat) ∧
    (partsBetween (mkS (jn (p :: r))) (occurrences (mkS (jn (p :: r))) sComma 0 (mkS (jn (p :: r))).length ((mkS (jn (p :: r))).length + 1)) sComma.length) = (p :: r).map mkS := by
  obtain ⟨f, hG, hn⟩ := occ_tight (mkS (jn (p :: r))) sComma (by decide)
  have ⟨e1, e2⟩ := split_go r [] p _ f h hG hn
  simp only [List.nil_append, List.length_nil] at e1
  refine ⟨?_, ?_, ?_⟩
  · unfold Txt.split
    cases r with
    | nil =>
      have e0 := List.length_eq_zero_iff.mp e2
      rw [e0]
      simp [jn]
    | cons q r =>
      rw [if_neg, if_neg, partsBetween_eq]
      · exact e1
      · intro hz
        have := List.isEmpty_iff.mp hz
        rw [this] at e2
        cases e2
      · rw [Bool.or_eq_true, decide_eq_true_eq, decide_eq_true_eq, mkS_len]
        rintro (z | z)
        · simp [jn, sComma, Str.length] at z
          omega
        · have k1 : Builtin.Str.strKind sComma = 1 := by decide +kernel
          rw [k1] at z
          unfold Builtin.Str.strKind at z
          split at z
          · omega
          · split at z <;> omega
  · unfold Txt.count
    rw [e2]
  · rw [partsBetween_eq]; exact e1
theorem nm_free : ∀ p < 33, 44 ∉ (nmF p).cps.toList := by decide +kernel
theorem nmF_inj : ∀ p < 33, ∀ q < 33, nmF p = nmF q → p = q := by
  have h : ((List.range 33).all fun p => (List.range 33).all fun q => Nat.beq p q || !(nmF p == nmF q)) = true := by decide +kernel
  intro p hp q hq e
  have h1 := List.all_eq_true.mp (List.all_eq_true.mp h p (List.mem_range.mpr hp)) q (List.mem_range.mpr hq)
  rw [e] at h1
  simp at h1
  exact h1
theorem nmA_inj {low i j : Nat} (hl : low < 28) (hi : i < 6) (hj : j < 6) (h : nmA low i = nmA low j) : i = j := by
  have := nmF_inj _ (by omega) _ (by omega) h
  omega
theorem nmA_len {low i : Nat} (hl : low < 28) (hi : i < 6) : (nmA low i).length ≤ 20 := nmF_len _ (by omega)
theorem jn_len : ∀ (ps : List (List Nat)) (B : Nat), (∀ q ∈ ps, q.length ≤ B) → (jn ps).length ≤ (B + 2) * ps.length
  | [], B, _ => by simp [jn]
  | [p], B, h => by have := h p (.head _); simp [jn]; omega
  | p :: q :: r, B, h => by
    have h1 := h p (.head _)
    have h2 := jn_len (q :: r) B fun x m => h x (.tail _ m)
    simp only [jn, List.length_append, List.length_cons, Nat.mul_add] at h2 ⊢
    omega
noncomputable def wdS (low : Nat) (l : List Nat) : Str := Txt.join sComma (l.map (nmA low))
structure WdOk (low : Nat) (l : List Nat) : Prop where
  n : (wdS low l).length ≤ 16777216
  s : Txt.split (wdS low l) sComma = l.map (nmA low)
  p : (partsBetween (wdS low l) (occurrences (wdS low l) sComma 0 (wdS low l).length ((wdS low l).length + 1)) sComma.length).length ≤ 16777216
theorem wd_ok {low : Nat} {l : List Nat} (hl : low < 28) (h6 : ∀ j ∈ l, j < 6) (hz : l.length ≤ 6) (hne : l ≠ []) : WdOk low l := by
  have hmk : (l.map fun i => (nmA low i).cps.toList).map mkS = l.map (nmA low) := by rw [List.map_map]; exact List.map_congr_left fun i u0 => mkS_of _
  have hw : wdS low l = mkS (jn (l.map fun i => (nmA low i).cps.toList)) := by unfold wdS; rw [← hmk, join_comma]
  have hb : ∀ q ∈ l.map (fun i => (nmA low i).cps.toList), 44 ∉ q := fun q m => by
    obtain ⟨i, hi, rfl⟩ := List.mem_map.mp m
    exact nm_free _ (by have := h6 i hi; omega)
  have hlen := jn_len (l.map fun i => (nmA low i).cps.toList) 20 fun q m => by
    obtain ⟨i, hi, rfl⟩ := List.mem_map.mp m
    exact nmA_len hl (h6 i hi)
  rw [List.length_map] at hlen
  constructor
  · rw [hw, mkS_len]; omega
  · rw [hw, ← hmk]
    cases l with
    | nil => exact absurd rfl hne
    | cons p r => exact (comma_split _ _ hb).1
  · rw [hw]
    cases l with
    | nil => exact absurd rfl hne
    | cons p r =>
      rw [List.map_cons] at hb ⊢
      rw [(comma_split _ _ hb).2.2, List.length_map, List.length_cons, List.length_map]
      exact Nat.le_trans hz (by decide)
end
end Mine
end
section
open PySem PySem.W PyProof.Rows
namespace Mine
structure Pl (n : Nat) (p : PyData) : Prop where
  e : PyData.eqv p p = true
  l : PyData.canLay0 p = true
  d : PyData.depth p ≤ n
structure PlA (n : Nat) (p : List PyData) : Prop where
  e : PyData.eqvAll p p = true
  l : PyData.canLayAll0 p = true
  d : PyData.depthAll p ≤ n
section
variable {n : Nat}
theorem PlA.nil : PlA n [] := ⟨by unfold PyData.eqvAll; rfl, by unfold PyData.canLayAll0; rfl, by unfold PyData.depthAll; exact Nat.zero_le _⟩
theorem PlA.cons {p : PyData} {r : List PyData} (a : Pl n p) (b : PlA n r) : PlA n (p :: r) := ⟨by unfold PyData.eqvAll; rw [a.e, b.e]; rfl, by unfold PyData.canLayAll0; rw [a.l, b.l]; rfl, by unfold PyData.depthAll; exact Nat.max_le.mpr ⟨a.d, b.d⟩⟩
theorem PlA.map {α : Type} {f : α → PyData} : ∀ {l : List α}, (∀ x ∈ l, Pl n (f x)) → PlA n (l.map f)
  | [], _ => .nil
  | x :: l, h => .cons (h x (.head _)) (PlA.map fun y m => h y (.tail _ m))
theorem Pl.int {i : Int} : Pl n (.int i) := ⟨by unfold PyData.eqv; exact BEq.rfl, by unfold PyData.canLay0; rfl, by unfold PyData.depth; exact Nat.zero_le _⟩
theorem Pl.str {s : Str} (h : PyData.strOk s = true) : Pl n (.str s) := ⟨by unfold PyData.eqv; exact BEq.rfl, by unfold PyData.canLay0; exact h, by unfold PyData.depth; exact Nat.zero_le _⟩
theorem Pl.list {l : List PyData} (h : PlA n l) : Pl (n + 1) (.list l) := ⟨by unfold PyData.eqv; exact h.e, by unfold PyData.canLay0; exact h.l, by unfold PyData.depth; exact Nat.succ_le_succ h.d⟩
theorem Pl.tuple {l : List PyData} (h : PlA n l) : Pl (n + 1) (.tuple l) := ⟨by unfold PyData.eqv; exact h.e, by unfold PyData.canLay0; exact h.l, by unfold PyData.depth; exact Nat.succ_le_succ h.d⟩
theorem Pl.shaped {p : PyData} (h : Pl n p) (hn : n ≤ 64) : SeqAt.shaped p = true := by unfold SeqAt.shaped; rw [h.l, decide_eq_true (Nat.le_trans h.d hn)]; rfl
theorem cmp_same {σ : St} {a b : D} {p : PyData} (h : Pl n p) (hn : n ≤ 64) (ra : Rd σ a p) (rb : Rd σ b p) : CmpOk σ .NotEq a b false := by
  have := cmp_ned ra rb (h.shaped hn) (h.shaped hn)
  rwa [h.e] at this
end
theorem getItem_four {prog : Program} {wd : World} {A : Around} {E : Value → Shared → Prop} {s : Shared} {t sl : Addr} {a b c d e : Value} {k : Tok} {Q : Value → Shared → Prop} (ht : IsTup s.heap t #[a, b, c, d, e]) (hs : s.heap.IsSliceOf sl .none (.int 4 k) .none)
    (h : Q (.ref s.heap.objs.size) { s with heap := s.heap.push { cls := .type "tuple", data := .seq #[a, b, c, d] } }) : wpAny (model prog wd) A (getItem (.ref t) (.ref sl)) Q E s := by
  obtain ⟨os, hos, hcs, hds⟩ := id hs
  unfold getItem
  try with_reducible refine wpAny_holding ?_
  first | refine wpAny_bind (wpAny_pure ?_) | skip
  refine wpAny_bind (wpAny_sequenceKey ht.typeIs (by decide) ?_)
  refine wpAny_bind (wpAny_callSpecial?_slot (name := Str.ofString "__getitem__") ht.typeIs slot_tuple_getitem
    (wpAny_call_entry slot_tuple_getitem ht.typeIs entry_tuple_getitem ?_ (args_tuple_getitem _ _)))
  show wpAny _ _ (Builtin.Tuple.tupleItemsOf (.ref t) >>= _) _ _ s
  refine wpAny_bind (tupleItemsOf_ ht ?_)
  refine wpAny_bind (wpAny_typeOf (show s.TypeIs (.ref sl) "slice" from ⟨os, hos, hcs⟩) ?_)
  rw [if_pos (by decide)]
  have ap : ∀ {A : Around} {E : Value → Shared → Prop} {P : Int × Int × Nat → Shared → Prop}, P (0, 1, 4) s → wpAny (model prog wd) A (Builtin.Slice.sliceApplied (.ref sl) (pure 5)) P E s := by
    intro A E P hP
    unfold Builtin.Slice.sliceApplied Builtin.Slice.sliceFields
    refine wpAny_bind (wpAny_bind (wpAny_field hos hds (x := .none) rfl (wpAny_bind (wpAny_field hos hds (x := .int 4 k) rfl (wpAny_bind (wpAny_field hos hds (x := .none) rfl (wpAny_pure ?_)))))))
    refine wpAny_bind (slicePart_none ?_)
    show wpAny _ _ (if ((1 : Int) == 0) = true then _ else _) _ _ s
    rw [if_neg (by decide)]
    exact wpAny_bind (slicePart_none (wpAny_bind (slicePart_int (wpAny_bind (wpAny_pure (wpAny_pure hP))))))
  refine wpAny_bind (ap ?_)
  first
    | exact wpAny_bind (m := Builtin.Tuple.tupleExact _) (wpAny_newObj_type (wpAny_pure ⟨_, rfl, wpAny_pure h⟩) (show 4 ≤ sizeLine by decide))
    | exact wpAny_bind (m := Builtin.Tuple.tupleExact _) (wpAny_newObj_type (wpAny_bind (wpAny_pure (wpAny_pure ⟨_, rfl, wpAny_pure h⟩))) (show 4 ≤ sizeLine by decide))
    | exact wpAny_bind (wpAny_bind (m := Builtin.Tuple.tupleExact _) (wpAny_newObj_type (wpAny_pure (wpAny_pure ⟨_, rfl, wpAny_pure h⟩)) (show 4 ≤ sizeLine by decide)))
    | exact wpAny_bind (wpAny_bind (m := Builtin.Tuple.tupleExact _) (wpAny_newObj_type (wpAny_pure ⟨_, rfl, wpAny_pure h⟩) (show 4 ≤ sizeLine by decide)))
theorem sl_four {σ : St} {a b c d e : D} : SlOk σ (.tup [a, b, c, d, e]) none (some 4) none (.tup [a, b, c, d]) := fun u0 u0 u0 u0 u0 u0 u0 u0 sa I ro px py pz hs => by
  obtain ⟨p, u1, n, z, u2, u3, ra, u4, u5, rb, u6, u7, rc, u8, u9, rd, u10, u11, re, e'⟩ := ro
  cases e'
  cases px; cases py; cases pz
  exact ⟨_, _, F.slot_tuple_getitem.lookup, ⟨_, z.is, rfl⟩, getItem_four ⟨_, z.is, rfl, n, rfl⟩ ⟨_, hs, rfl, rfl⟩ (out_tup I _ ⟨_, _, ra, _, _, rb, _, _, rc, _, _, rd, rfl⟩)⟩
theorem kget_app {l : List (Str × D)} {k : Str} {d : D} (h : k ∉ l.map (·.1)) : kget (l ++ [(k, d)]) k = some d := by
  induction l with
  | nil => exact if_pos rfl
  | cons p l ih =>
    obtain ⟨j, e⟩ := p
    exact (if_neg fun (q : j = k) => h (q ▸ .head _)).trans (ih fun m => h (.tail _ m))
theorem kset_app {l : List (Str × D)} {k : Str} {d e : D} (h : k ∉ l.map (·.1)) : kset (l ++ [(k, d)]) k e = l ++ [(k, e)] := by
  induction l with
  | nil => exact if_pos rfl
  | cons p l ih =>
    obtain ⟨j, x⟩ := p
    exact (if_neg fun (q : j = k) => h (q ▸ .head _)).trans (congrArg ((j, x) :: ·) (ih fun m => h (.tail _ m)))
theorem aget_none {α β : Type} [DecidableEq α] {k : α} : ∀ {l : List (α × β)}, k ∉ l.map (·.1) → aget l k = none
  | [], _ => rfl
  | (j, d) :: l, h => (if_neg fun q : j = k => h (q ▸ .head _)).trans (aget_none fun m => h (.tail _ m))
theorem addC_one {l : List (Str × Int)} {k : Str} {c : Int} (h : k ∉ l.map (·.1)) : addC l [(k, c)] = l ++ [(k, c)] := by
  have : aget l k = none := aget_none h
  show aset l k ((aget l k).getD 0 + c) = _
  rw [this, aset_app _ _ _ h]
  exact congrArg (fun c => l ++ [(k, c)]) (Int.zero_add c)
theorem spell_eq (word : List Nat) (w : Nat) : spell word w = took word w ++ left w := by
  unfold spell took left
  split
  · show 34 :: _ = 34 :: _ ++ _
    rw [List.cons_append, List.append_assoc]; rfl
  · rename_i h
    obtain ⟨c, r, e⟩ := gapL_ne h
    rw [e, List.append_assoc]; rfl
theorem left_ws (w : Nat) : ∀ c ∈ left w, isWs c = true := fun c hc => by
  unfold left at hc
  split at hc
  · exact gapL_ws w c hc
  · exact gapL_ws w c (List.mem_of_mem_tail hc)
inductive Got (C : Cx) (l2 : Addr) (x : Lx) (word : List Nat) (tot : Nat) (cs : List Nat) (σ : St) : Prop
  | mk (σ' : St) (ln' : Nat) (g : FnTo C 4 l2 [.loc x.L] σ (.str (mkS word)) σ') (X : LX x ln' cs [] σ') (F : Fm [x.L, x.IT] σ σ') (l : ln' + nls cs = tot)
theorem LX.get' {C : Cx} {x : Lx} {ln : Nat} {pre : List Nat} {σ : St} (Q : Pr C) (hx : x.ct = Q.lx) {word rest : List Nat} {w : Nat} (X : LX x ln (pre ++ (spell word w ++ rest)) [] σ) (hn : x.Nd) (hpre : ∀ c ∈ pre, isWs c = true) (hw0 : word ≠ []) (hwl : word.length ≤ 1000) : Got C Q.l2 x word (ln + nls (pre ++ (spell word w ++ rest))) (left w ++ rest) σ := by
  obtain ⟨σ', h1, h2, h3⟩ := X.get Q hx hn hpre hw0 hwl
  refine ⟨σ', _, h1, h2, h3, ?_⟩
  rw [spell_eq, List.append_assoc, ← List.append_assoc pre, nls_app (pre ++ _), Nat.add_assoc]
theorem nmF_ok : ∀ p < 33, PyData.strOk (nmF p) = true := by decide +kernel
theorem nmA_ok {low i : Nat} (hl : low < 28) (hi : i < 6) : PyData.strOk (nmA low i) = true := nmF_ok _ (by omega)
theorem sg_ok (v : Nat) : ∀ i < 6, PyData.strOk (mkS [sgnF v i]) = true := fun i hi => (by decide +kernel : ∀ v < 4, ∀ i < 6, PyData.strOk (mkS [(sgnT.getD v []).getD i 0]) = true) (v % 4) (Nat.mod_lt v (by decide)) i hi
section
variable {K : Ctx} {ρ ρ' : Rho} {σ σ' : St} {elts : List Expr} {kd : Nat} {q pos : Pos} {e : Expr} {ds : List D} {names : List Str} {E : Value → Shared → Prop} {w : W}
theorem asgR_ok {xs : List Str} (h : StoL K.fd xs ds ρ ρ') : ∀ {vs : List Value} {w : W}, Ok K ρ σ w → RepL K.C w ds vs → wpAny K.C.M K.A (assignInOrder (xs.map fun n => bindName K.env n) vs) (fun u0 => OutN K K.own1 w σ ρ') E w.s := by
  induction h with
  | nil => intro vs w p r; cases r; exact wpAny_pure ⟨w, .refl _ _, p.I, p.V⟩
  | cons i hi hm r ih =>
    intro vs w p ⟨v, vs, r1, r2⟩
    rw [List.map_cons]
    unfold assignInOrder
    exact wpAny_bind (wpAny_holding (wpAny_bindName (wpAny_mono (store_ok p.o p.I p.V hi hm r1) (fun u0 u0 ⟨w1, x1, I1, V1⟩ => wpAny_mono (ih ⟨p.o, I1, V1⟩ (x1.repL r2)) (fun u0 u0 o => o.after x1) fun u0 u0 e => e) fun u0 u0 e => e)))
theorem repL_rev {C : Cx} {w : W} : ∀ {l : List D} {vs : List Value}, RepL C w l vs → RepL C w l.reverse vs.reverse
  | [], _, r => by cases r; exact rfl
  | d :: l, _, ⟨v, vs, a, b⟩ => by
    rw [List.reverse_cons, List.reverse_cons]
    exact RepL.append (repL_rev b) ⟨v, [], a, rfl⟩
theorem TS_asgR (h : TE K ρ (eval e K.env) σ (.tup ds) σ') (hn : names.length = ds.length) (st : StoL K.fd names.reverse ds.reverse ρ ρ') (hw : swappedStores [.Tuple elts kd q] e (dEnv K.fd.scope) = pure (some names) := by kernel_rfl) (hs : swapsWithSole [.Tuple elts kd q] e pos.line K.env = pure false := by rfl) :
    TS K ρ (exec (.Assign [.Tuple elts kd q] e pos) K.env) σ .next ρ' σ' := fun u0 u0 p =>
  PyProof.Rows.Assign_Tuple_swapped (h.go p fun v w1 n1 => by
    obtain ⟨a, vs, n, z, r⟩ := n1.r
    rw [show names.length = vs.toArray.size by rw [hn, List.size_toArray, r.length]]
    refine unpackItems_tuple (items := vs.toArray) p.o.room.handled ⟨_, z.is, rfl, n, rfl⟩ fun h' hx => ?_
    have hk : ∀ b o, w1.s.heap.get? b = some o → h'.get? b = some o := fun b o e => hx b o (fun q => by rw [q, Heap.fresh0] at e; cases e) e
    have x : Step NoF w1 (w1.put [] .fz h' w1.s.toks []) := .grow hk
    exact wpAny_mono (asgR_ok st (w := w1.put [] .fz h' w1.s.toks []) (n1.p.next x (n1.p.I.grow hk)) (repL_rev (x.repL r))) (fun u0 u0 o => o.next (n1.x.trans x)) fun u0 u0 e => e) hs ((sw_env p.o.scope).trans hw)
end
end Mine
end
section
open PySem PySem.W PyProof.Rows
namespace Mine
structure Lw where
  s : D
  c : D
  rg : D
  aw : D
  p : D
  q : D
  ns : List Nat
  ds : List Nat
  o : List Nat
  v : Nat
  low : Nat
  T : Nat → List Nat
  L : Nat
  bk : Nat
noncomputable def Lw.r0 (X : Lw) (l : List (Option D)) : Rho := lwY X.s (.int (X.low : Nat)) X.c (namD X.low) .none X.rg X.aw X.ns X.ds X.o X.v X.T l
noncomputable def Lw.r (X : Lw) (one sg lf wd : Option D) : Rho := X.r0 [some X.p, one, none, some X.q, some (.loc X.L), some (.ds []), some (.loc X.bk), sg, lf, wd]
noncomputable def rdP : List Stmt := forB ((pT 16).body.getD 16 (.Pass default))
noncomputable def wdD (low : Nat) (l : List Nat) : D := .lst (l.map fun j => .str (nmA low j))
structure XOk (X : Lw) : Prop where
  l : X.low < 28
  T : TOk X.T
theorem nam_at {low i : Nat} {σ : St} (hi : i < 6) : IdxOk σ (namD low) (.int (i : Nat)) (.str (nmA low i)) := idx_lst (.z _) (by rw [List.getElem?_map, List.getElem?_range hi]; rfl) (by omega)
section
variable {C : Cx} {A : Around} {env : Env} {X : Lw} {x : Lx} {σ σ1 σ2 : St} {ln ln1 i m : Nat} {o : List Nat}
theorem rd_a0 (Q : Pr C) (hx : x.ct = Q.lx) (hL : X.L = x.L) (ho : o.length ≤ 1000) (l0 : σ[x.L]? = some (.ins x.ct (x.fs ln))) (l1 : σ1[x.L]? = some (.ins x.ct (x.fs ln1))) (g1 : FnTo C 4 Q.l2 [.loc x.L] σ (.str (mkS [sgnF X.v i])) σ1) (g2 : FnTo C 4 Q.l2 [.loc x.L] σ1 (.str (mkS o)) σ2) :
    TS (.fn C A 8 fd16 env) (X.r (some (.int (i : Nat))) none none none) (exec (rdP.getD 0 (.Pass default)) env) σ .next (X.r (some (.int (i : Nat))) (some (.str (mkS [sgnF X.v i]))) (some (.loc σ2.length)) none) (σ2 ++ [.it (natD o)]) := by
  have hLd : D.loc X.L = .loc x.L := congrArg D.loc hL
  exact TS_asgR (names := ["sign", "left"]) (ds := [.str (mkS [sgnF X.v i]), .loc σ2.length]) (TE_tuple (a2 (TE_mcall g1 (Nat.le_of_ble_eq_true rfl) (hx ▸ Q.X.gf) Q.X.gt.isFn rfl (TE.val (tv 17 rfl) hLd) l0 Lx.no_get an)
    (TE_bi Q.G.iter (by kernel_rfl) rfl rfl (a1 (TP.rest made_L (TP_lm [42] sg (fun c : Nat => .int (c : Nat)) o (TI_of (TE_mcall g2 (Nat.le_of_ble_eq_true rfl) (hx ▸ Q.X.gf) Q.X.gt.isFn rfl (TE.val (tv 17 rfl) hLd) l1 Lx.no_get an) iter_str) rfl (by omega) fun cenv c m => ⟨.v (i := 42) rfl rfl, .set rfl, TE_bi Q.G.ord (by kernel_rfl) rfl rfl (a1 (tv 42 rfl)) fun q r => bi_ord q.I r⟩))) fun q r => bi_iter q.I r)) (Nat.le_of_ble_eq_true rfl)) rfl (.cons 21 rfl rfl (.cons 20 rfl rfl .nil))
theorem rd_a1 (Q : Pr C) (H : XOk X) (hi : i < 6) {w : Nat} (hm : σ[m]? = some (.it (natD (encO (octP (flgN X.T X.low i) w))))) {sg : D} :
    TS (.fn C A 8 fd16 env) (X.r (some (.int (i : Nat))) (some sg) (some (.loc m)) none) (exec (rdP.getD 1 (.Pass default)) env) σ .next (X.r (some (.int (i : Nat))) (some sg) (some (.loc m)) (some (wdD X.low (X.T i)))) (σ.set m (.it []) ++ [.dead]) := by
  obtain ⟨p, r, e1, e2, e3, e4⟩ := octP_ok (flgN X.T X.low i) w (flgN_lt H.T H.l hi)
  have hwd := wd_ok H.l (H.T.lt i hi) (H.T.len i hi) (H.T.ne i hi)
  have hS : ∀ p ∈ (X.T i).map (X.low + ·), p < 33 := fun p m => by
    obtain ⟨j, mj, rfl⟩ := List.mem_map.mp m
    have := H.T.lt i hi j mj; have := H.l; omega
  have hp : ((X.T i).map (X.low + ·)).Pairwise (· < ·) := List.pairwise_map.mpr ((H.T.up i hi).imp fun h => Nat.add_lt_add_left h _)
  have hz : ((X.T i).map (X.low + ·)).length ≤ 90 := by rw [List.length_map]; exact Nat.le_trans (H.T.len i hi) (by decide)
  rw [e1] at hm e4
  have h1 := parse_fn (rest := []) Q.G Q.F8 (Nat.lt_trans (flgN_lt H.T H.l hi) (by decide)) e3 e4 (hm.trans (by rw [List.append_nil]))
  have h2 := pretty_fn (σ := σ.set m (.it [])) Q.G Q.fl Q.F7 _ hS hp (fun e => H.T.ne i hi (List.map_eq_nil_iff.mp e)) hz
  have e5 : Txt.join sComma (((X.T i).map (X.low + ·)).map nmF) = wdS X.low (X.T i) := by rw [List.map_map]; rfl
  rw [e5] at h2
  exact TS_asg (i := 22) (TE.val (TE_split1 (by decide) hwd.n hwd.p (call Q.F7 h2 (a1 (call Q.F8 h1 (a1 (tv 21 rfl))))) (a1 TE_str)) (by rw [hwd.s, List.map_map]; rfl)) rfl rfl rfl
theorem wd_pl {low : Nat} {l : List Nat} (hl : low < 28) (h6 : ∀ j ∈ l, j < 6) : Pl 1 (.list (l.map fun j => .str (nmA low j))) := .list (.map fun j m => .str (nmA_ok hl (h6 j m)))
theorem wd_rd {low : Nat} {l : List Nat} : Rd σ (wdD low l) (.list (l.map fun j => .str (nmA low j))) := rd_lst (.z _) (rdL_map fun j m => rd_str)
theorem rd_a2 (Q : Pr C) (H : XOk X) (hi : i < 6) (hm : σ[m]? = some (.it [])) :
    TS (.fn C A 8 fd16 env) (X.r (some (.int (i : Nat))) (some (.str (mkS [sgnF X.v i]))) (some (.loc m)) (some (wdD X.low (X.T i)))) (exec (rdP.getD 2 (.Pass default)) env) σ .next (X.r (some (.int (i : Nat))) (some (.str (mkS [sgnF X.v i]))) (some (.loc m)) (some (wdD X.low (X.T i)))) σ :=
  TS_if_f (TB.to (TB_boolop (TB_or (TB_cmp (tv 20 rfl) (TE_idx (tv 3 rfl) (tv 14 rfl) (sgn_at hi)) cmp_nes rfl) (TB_or (TB_cmp (tv 22 rfl) (TP.rest made_L (TP_lm [23] (fun j : Nat => .int (j : Nat)) (fun j => .str (nmA X.low j)) (X.T i) (TI_of (TE_idx (tv 12 rfl) (tv 14 rfl) (tie_at hi)) iter_lst) rfl (Nat.le_trans (H.T.len i hi) (by decide)) fun cenv j m => ⟨.v (i := 23) rfl rfl, .set rfl, TE_idx (tv 6 rfl) (tv 23 rfl) (nam_at (H.T.lt i hi j m))⟩)) (cmp_same (wd_pl H.l (H.T.lt i hi)) (by decide) wd_rd wd_rd) rfl)
    (TB_or (TB_cmp (TE_bi Q.G.list (by kernel_rfl) rfl rfl (a1 (tv 21 rfl)) fun q r => bi_listIt hm q.o.room.handled q.I r) (TE_list an (Nat.zero_le _)) (cmp_ned (rd_lst (.z _) rdL_nil) (rd_lst (.z _) rdL_nil) (by decide) (by decide)) rfl) TB_or_nil)))) (by rw [BEq.rfl]; decide)) TS_nil
end
end Mine
end
section
open PySem PySem.W PyProof.Rows
namespace Mine
noncomputable def rowS (s : Nat → Nat) (l : List Nat) : D := statD (figsOf l) (calL s l)
theorem figs_snoc (l : List Nat) (j : Nat) : ((1 : Int) + (figsOf l).1, (2 : Int) + (figsOf l).2.1, (j : Int) + (figsOf l).2.2.1, (j : Int) * (j : Int) + (figsOf l).2.2.2) = figsOf (l ++ [j]) := by
  unfold figsOf
  rw [List.length_append, List.sum_append, List.map_append, List.sum_append]
  refine Prod.ext_iff.mpr ⟨?_, Prod.ext_iff.mpr ⟨?_, Prod.ext_iff.mpr ⟨?_, ?_⟩⟩⟩
  · show (1 : Int) + (l.length : Int) = ((l.length + 1 : Nat) : Int); omega
  · show (2 : Int) + 2 * (l.length : Int) = 2 * ((l.length + 1 : Nat) : Int); omega
  · show (j : Int) + (l.sum : Int) = ((l.sum + (j + 0) : Nat) : Int); omega
  · show (j : Int) * (j : Int) + (((l.map fun j => j * j).sum : Nat) : Int) = (((l.map fun j => j * j).sum + (j * j + 0) : Nat) : Int)
    rw [← Int.natCast_mul, Nat.add_zero, Int.natCast_add]; exact Int.add_comm _ _
theorem cal_keys (s : Nat → Nat) (l : List Nat) : (calL s l).map (·.1) = l.map fun j => mkS [s j] := List.map_map ..
theorem cal_new {s : Nat → Nat} (h : SgOk s) {l : List Nat} (h6 : ∀ k ∈ l, k < 6) {j : Nat} (hj : j < 6) (hn : j ∉ l) : mkS [s j] ∉ (calL s l).map (·.1) := by
  rw [cal_keys]
  intro m
  obtain ⟨k, hk, e⟩ := List.mem_map.mp m
  exact hn (sg_inj h (h6 k hk) hj e ▸ hk)
theorem nodup_map_on {α β : Type} {f : α → β} : ∀ {l : List α}, (∀ x ∈ l, ∀ y ∈ l, f x = f y → x = y) → l.Nodup → (l.map f).Nodup
  | [], _, _ => .nil
  | x :: l, h, hn => by
    obtain ⟨h1, h2⟩ := List.nodup_cons.mp hn
    rw [List.map_cons, List.nodup_cons]
    exact ⟨fun m => by obtain ⟨y, my, e⟩ := List.mem_map.mp m; exact h1 (h x (.head _) y (.tail _ my) e.symm ▸ my), nodup_map_on (fun a ma b mb => h a (.tail _ ma) b (.tail _ mb)) h2⟩
theorem cal_nd {s : Nat → Nat} (h : SgOk s) {l : List Nat} (h6 : ∀ k ∈ l, k < 6) (hn : l.Nodup) : ((calL s l).map (·.1)).Nodup := by
  rw [cal_keys]
  exact nodup_map_on (fun x m y m' e => sg_inj h (h6 x m) (h6 y m') e) hn
theorem nm_ix {low j : Nat} (hl : low < 28) (hj : j < 6) : ((List.range 6).map (nmA low))[j]? = some (nmA low j) ∧ ∀ m, m < j → ((List.range 6).map (nmA low))[m]? ≠ some (nmA low j) :=
  ⟨by rw [List.getElem?_map, List.getElem?_range hj]; rfl, fun m hm e => by
    have hm6 := Nat.lt_trans hm hj
    rw [List.getElem?_map, List.getElem?_range hm6] at e
    exact Nat.ne_of_lt hm (nmA_inj hl hm6 hj (Option.some.inj e))⟩
section
variable {C : Cx} {A : Around} {env : Env} {X : Lw} {σ : St} {i m : Nat} {B : List (Str × D)}
noncomputable def rdJ : List Stmt := forB (rdP.getD 4 (.Pass default))
theorem rd_b (Q : Pr C) (H : XOk X) (hi : i < 6) {lf : D} {done : List Nat} {j : Nat} {todo : List Nat} (e : X.T i = done ++ j :: todo) (hB : mkS [sgnF X.v i] ∉ B.map (·.1)) (hz : B.length ≤ 100) (hb : σ[X.bk]? = some (.ds (B ++ [(mkS [sgnF X.v i], rowS (sgnF X.v) done)]))) :
    TS (.fn C A 8 fd16 env) ((X.r (some (.int (i : Nat))) (some (.str (mkS [sgnF X.v i]))) (some lf) (some (wdD X.low (X.T i)))).set 23 (some (.int (j : Nat)))) (execs rdJ env) σ .next (X.r (some (.int (i : Nat))) (some (.str (mkS [sgnF X.v i]))) (some lf) (some (wdD X.low (X.T i)))) ((σ ++ [AO.dead]).set X.bk (AO.ds (B ++ [(mkS [sgnF X.v i], rowS (sgnF X.v) (done ++ [j]))]))) := by
  have hT6 := H.T.lt i hi
  have hup := H.T.up i hi
  rw [e] at hT6 hup
  have hnd : (done ++ j :: todo).Nodup := hup.imp fun h => Nat.ne_of_lt h
  have hj := hT6 j (List.mem_append_right _ (.head _))
  have hd6 : ∀ k ∈ done, k < 6 := fun k m => hT6 k (List.mem_append_left _ m)
  have hjn : j ∉ done := fun m => (List.nodup_append.mp hnd).2.2 j m j (.head _) rfl
  have hdl : done.length ≤ 6 := Nat.le_trans (by rw [e, List.length_append]; exact Nat.le_add_right _ _) (H.T.len i hi)
  have hst := stats_fn (σ := σ) Q.G Q.F2 Q.F3 (figsOf done) (1, 2, (j : Int), (j : Int) * (j : Int)) (calL (sgnF X.v) done) [(mkS [sgnF X.v j], 2 * (j : Int) + 1)] (cal_nd (sgnF_ok X.v) hd6 (List.nodup_append.mp hnd).1) (by rw [calL, List.length_map]; exact Nat.le_trans (Nat.succ_le_succ hdl) (by decide))
  rw [addC_one (cal_new (sgnF_ok X.v) hd6 hj hjn), figs_snoc, show calL (sgnF X.v) done ++ [(mkS [sgnF X.v j], 2 * (j : Int) + 1)] = calL (sgnF X.v) (done ++ [j]) from (List.map_append (f := fun j : Nat => (mkS [sgnF X.v j], 2 * (j : Int) + 1)) (l₁ := done) (l₂ := [j])).symm] at hst
  exact TS_cons (TS.st (TS_seti (call Q.F2 hst (a2 (TE_idx (tv 19 rfl) (tv 20 rfl) (idx_ds (.o hb) (kget_app hB))) (TE_tuple (ac TE_int (ac TE_int (ac (tv 23 rfl) (ac (TE_bin (tv 23 rfl) (tv 23 rfl) (bin_mul (.inl (by omega)))) (a1 (TP.rest made_D (TP_ds1 (TE_idx (tv 3 rfl) (tv 23 rfl) (sgn_at hj)) (TE_bin (TE_bin TE_int (tv 23 rfl) (bin_mul (.inl (by decide)))) TE_int bin_add)))))))) (Nat.le_of_ble_eq_true rfl)))) (tv 19 rfl) (tv 20 rfl) (at_app hb) (by rw [List.length_append]; exact Nat.le_trans (Nat.succ_le_succ hz) (by decide))) (by rw [kset_app hB]; rfl)) (TS_nilf [23])
end
end Mine
end
section
open PySem PySem.W PyProof.Rows
namespace Mine
theorem sum_nat (f : Nat → Nat) : ∀ l : List Nat, (l.map fun j => ((f j : Nat) : Int)).sum = (((l.map f).sum : Nat) : Int)
  | [] => rfl
  | j :: l => by
    rw [List.map_cons, List.map_cons, List.sum_cons, List.sum_cons, sum_nat f l]; rfl
theorem sum_id (l : List Nat) : (l.map fun j => ((j : Nat) : Int)).sum = ((l.sum : Nat) : Int) := (sum_nat (fun j => j) l).trans (by rw [List.map_id'])
theorem sum_sq (l : List Nat) : (l.map fun j => ((j : Nat) : Int) * (j : Int)).sum = (((l.map fun j => j * j).sum : Nat) : Int) := sum_nat (fun j => j * j) l
theorem sumC_cal (s : Nat → Nat) : ∀ l : List Nat, sumC (calL s l) = 2 * ((l.sum : Nat) : Int) + (l.length : Int)
  | [] => rfl
  | j :: l => by
    have ih := sumC_cal s l
    show 2 * (j : Int) + 1 + sumC (calL s l) = _
    rw [ih, List.sum_cons, List.length_cons]; omega
noncomputable def fig4 (f : Int × Int × Int × Int) : D := .tup [.int f.1, .int f.2.1, .int f.2.2.1, .int f.2.2.2]
theorem fig4_rd {σ : St} {f : Int × Int × Int × Int} : Rd σ (fig4 f) (.tuple [.int f.1, .int f.2.1, .int f.2.2.1, .int f.2.2.2]) := rd_tup (rdL_cons rd_int (rdL_cons rd_int (rdL_cons rd_int (rdL_cons rd_int rdL_nil))))
theorem cmp_fig4 {σ : St} {f : Int × Int × Int × Int} : CmpOk σ .NotEq (fig4 f) (fig4 f) false := cmp_same (n := 1) (.tuple (.cons .int (.cons .int (.cons .int (.cons .int .nil))))) (by decide) fig4_rd fig4_rd
section
variable {C : Cx} {A : Around} {env : Env} {X : Lw} {σ : St} {i m : Nat} {B : List (Str × D)}
noncomputable def Lw.rw (X : Lw) (i : Nat) (lf : D) : Rho := X.r (some (.int (i : Nat))) (some (.str (mkS [sgnF X.v i]))) (some lf) (some (wdD X.low (X.T i)))
theorem rd_c (Q : Pr C) (H : XOk X) (hi : i < 6) {lf : D} (hB : mkS [sgnF X.v i] ∉ B.map (·.1)) (hb : σ[X.bk]? = some (.ds (B ++ [(mkS [sgnF X.v i], rowS (sgnF X.v) (X.T i))]))) :
    TS (.fn C A 8 fd16 env) (X.rw i lf) (exec (rdP.getD 5 (.Pass default)) env) σ .next (X.rw i lf) σ := by
  have hlen : ∀ {σ : St} {ρ : Rho} {pos p p' : Pos}, ρ[22]? = some (some (wdD X.low (X.T i))) → TE (.fn C A 8 fd16 env) ρ (eval (.Call (.Name "len" p) [.Name "words" p'] [] pos) env) σ (.int ((X.T i).length : Int)) σ := fun h =>
    TE.val (TE_bi (K := .fn C A 8 fd16 env) Q.G.len (by kernel_rfl) rfl rfl (a1 (tv 22 h)) fun q r => bi_len (.z _) (by rw [List.length_map]; exact Nat.le_trans (H.T.len i hi) (by decide)) q.I r) (by rw [List.length_map])
  refine TS_if_f (TB_cmp (a := fig4 (figsOf (X.T i))) (b := fig4 (figsOf (X.T i))) (TE_sl (TE_idx (tv 19 rfl) (tv 20 rfl) (idx_ds (.o hb) (kget_app hB))) TE_part_none (TE_part_some TE_int) TE_part_none .none (.int _) .none sl_four)
    (TE_tuple (ac (hlen rfl) (ac (TE_bin TE_int (hlen rfl) (bin_mul (.inl (by decide)))) (ac (TE.val (TE_bi Q.G.sum (by kernel_rfl) rfl rfl (a1 (TE_idx (tv 12 rfl) (tv 14 rfl) (tie_at hi))) fun q r => bi_sum (ns := (X.T i).map fun j => ((j : Nat) : Int)) (by rw [List.map_map]; exact .z _) q.o.room.handled q.I r) (congrArg D.int (sum_id _)))
      (a1 (TE.val (TE_bi Q.G.sum (by kernel_rfl) rfl rfl (a1 (TP.rest made_L (TP_lm [23] (fun j : Nat => .int (j : Nat)) (fun j => .int ((j : Int) * (j : Int))) (X.T i) (TI_of (TE_idx (tv 12 rfl) (tv 14 rfl) (tie_at hi)) iter_lst) rfl (Nat.le_trans (H.T.len i hi) (by decide)) fun cenv j m => ⟨.v (i := 23) rfl rfl, .set rfl, TE_bin (tv 23 rfl) (tv 23 rfl) (bin_mul (.inl (by have := H.T.lt i hi j m; omega)))⟩))) fun q r => bi_sum (ns := (X.T i).map fun j : Nat => (j : Int) * (j : Int)) (by rw [List.map_map]; exact .z _) q.o.room.handled q.I r) (congrArg D.int (sum_sq _))))))) (Nat.le_of_ble_eq_true rfl)) cmp_fig4 rfl) TS_nil
noncomputable def itP (s : Nat → Nat) (j : Nat) : D := .tup [.str (mkS [s j]), .int (2 * (j : Int) + 1)]
theorem rd_d (Q : Pr C) (H : XOk X) (hi : i < 6) {lf : D} (hB : mkS [sgnF X.v i] ∉ B.map (·.1)) (hb : σ[X.bk]? = some (.ds (B ++ [(mkS [sgnF X.v i], rowS (sgnF X.v) (X.T i))]))) :
    TS (.fn C A 8 fd16 env) (X.rw i lf) (exec (rdP.getD 6 (.Pass default)) env) σ .next (X.rw i lf) σ := by
  have hz := Nat.le_trans (H.T.len i hi) (show 6 ≤ 1000000 by decide)
  have hR : ∀ {σ : St}, Rd σ (.lst ((X.T i).map (itP (sgnF X.v)))) (.list ((X.T i).map fun j => .tuple [.str (mkS [sgnF X.v j]), .int (2 * (j : Int) + 1)])) := fun {σ} => rd_lst (.z _) (rdL_map fun j m => rd_tup (rdL_cons rd_str (rdL_cons rd_int rdL_nil)))
  have hP : Pl 2 (.list ((X.T i).map fun j => .tuple [.str (mkS [sgnF X.v j]), .int (2 * (j : Int) + 1)])) := .list (.map fun j m => .tuple (.cons (.str (sg_ok X.v j (H.T.lt i hi j m))) (.cons .int .nil)))
  have hcal : ∀ {σ : St} {a : D} {b : List (Str × D)}, IdxOk σ (rowS (sgnF X.v) (X.T i)) (.int 4) (.ds (intD (calL (sgnF X.v) (X.T i)))) := fun {σ a b} => idx_tup (j := 4) rfl (by decide)
  refine TS_if_f (TB.to (TB_boolop (TB_or (TB_cmp (a := .lst ((X.T i).map (itP (sgnF X.v)))) (TE.val (TE_listItems Q.G.list (by kernel_rfl) (TE_idx (TE_idx (tv 19 rfl) (tv 20 rfl) (idx_ds (.o hb) (kget_app hB))) TE_int (hcal (a := .none) (b := []))) (by rw [intD, mapD, List.length_map, calL, List.length_map]; exact hz)) (by unfold intD mapD calL; rw [List.map_map, List.map_map]; rfl))
    (TP.rest made_L (TP_lm [23] (fun j : Nat => .int (j : Nat)) (itP (sgnF X.v)) (X.T i) (TI_of (TE_idx (tv 12 rfl) (tv 14 rfl) (tie_at hi)) iter_lst) rfl (Nat.le_trans (H.T.len i hi) (by decide)) fun cenv j m => ⟨.v (i := 23) rfl rfl, .set rfl, TE_tuple (a2 (TE_idx (tv 3 rfl) (tv 23 rfl) (sgn_at (H.T.lt i hi j m))) (TE_bin (TE_bin TE_int (tv 23 rfl) (bin_mul (.inl (by decide)))) TE_int bin_add)) (Nat.le_of_ble_eq_true rfl)⟩)) (cmp_same hP (by decide) hR hR) rfl)
    (TB_or (TB_cmp (call Q.F4 (count_fn Q.G Q.F4 (calL (sgnF X.v) (X.T i))) (a1 (TE_idx (TE_idx (tv 19 rfl) (tv 20 rfl) (idx_ds (.o hb) (kget_app hB))) TE_int (hcal (a := .none) (b := [])))))
      (TE_bin (TE_bin TE_int (TE.val (TE_bi Q.G.sum (by kernel_rfl) rfl rfl (a1 (TE_idx (tv 12 rfl) (tv 14 rfl) (tie_at hi))) fun q r => bi_sum (ns := (X.T i).map fun j => ((j : Nat) : Int)) (by rw [List.map_map]; exact .z _) q.o.room.handled q.I r) (congrArg D.int (sum_id _))) (bin_mul (.inl (by decide)))) (TE.val (TE_bi Q.G.len (by kernel_rfl) rfl rfl (a1 (tv 22 rfl)) fun q r => bi_len (.z _) (by rw [List.length_map]; exact Nat.le_trans (H.T.len i hi) (by decide)) q.I r) (by rw [List.length_map])) bin_add) cmp_nei rfl) TB_or_nil))) (by rw [sumC_cal, BEq.rfl]; rfl)) TS_nil
end
end Mine
end
section
open PySem PySem.W PyProof.Rows
namespace Mine
noncomputable def bkP (s : Nat → Nat) (T : Nat → List Nat) (l : List Nat) : List (Str × D) := l.map fun i => (mkS [s i], rowS s (T i))
theorem set_app_set {α : Type} {l : List α} {n : Nat} {a b d : α} (h : n < l.length) : (l.set n a ++ [d]).set n b = (l ++ [d]).set n b := by
  rw [List.set_append_left _ _ (by rw [List.length_set]; exact h), List.set_append_left _ _ h, List.set_set]
structure RdI (X : Lw) (x : Lx) (n2 tot : Nat) (vs done pre : List Nat) (ln : Nat) (σ : St) : Prop where
  e : done ++ vs = List.range 6
  p : ∀ c ∈ pre, isWs c = true
  XX : LX x ln (pre ++ txt n2 (wrdF (sgnF X.v) X.T X.low n2 vs ++ [endW]) (2 * done.length)) [] σ
  b : σ[X.bk]? = some (.ds (bkP (sgnF X.v) X.T done))
  l : ln + nls (pre ++ txt n2 (wrdF (sgnF X.v) X.T X.low n2 vs ++ [endW]) (2 * done.length)) = tot
inductive RdO (C : Cx) (X : Lw) (x : Lx) (n2 tot : Nat) (vs : List Nat) (σ : St) : Prop
  | mk (σ' : St) (pre : List Nat) (ln : Nat) (go : ∀ {A env p}, Run (.fn C A 8 fd16 env) Nl (.Name "one" p) rdP [] vs.length (vs.map fun i => .int (i : Nat)) (X.r none none none none) σ .next (X.r none none none none) σ') (h : RdI X x n2 tot [] (List.range 6) pre ln σ') (F : Fm [x.L, x.IT, X.bk] σ σ')
theorem rd_go {C : Cx} {X : Lw} {x : Lx} {n2 tot : Nat} (Q : Pr C) (hx : x.ct = Q.lx) (hn : x.Nd) (hL : X.L = x.L) (H : XOk X) (htb : X.bk ∉ x.cells) : ∀ (vs done pre : List Nat) (ln : Nat) (σ : St), RdI X x n2 tot vs done pre ln σ → RdO C X x n2 tot vs σ
  | [], done, pre, ln, σ, h => by
    have e := h.e
    rw [List.append_nil] at e
    subst e
    exact ⟨σ, pre, ln, .done (.none _) TS_nil, h, Fm.refl _ _⟩
  | v :: vs, done, pre, ln, σ, h => by
    obtain ⟨e, hp, XX, hb, hl⟩ := h
    have hv : v < 6 := List.mem_range.mp (by rw [← e]; exact List.mem_append_right _ (.head _))
    have hd6 : ∀ k ∈ done, k < 6 := fun k m => List.mem_range.mp (by rw [← e]; exact List.mem_append_left _ m)
    have hnd : (done ++ v :: vs).Nodup := e ▸ List.nodup_range
    have hvn : v ∉ done := fun m => (List.nodup_append.mp hnd).2.2 v m v (.head _) rfl
    have hdl : done.length ≤ 6 := by have := congrArg List.length e; rw [List.length_append, List.length_range] at this; omega
    have ho := octN_ok (n := n2) H.T H.l hv
    rw [show txt n2 (wrdF (sgnF X.v) X.T X.low n2 (v :: vs) ++ [endW]) (2 * done.length) = spell [sgnF X.v v] (n2 / (2 * done.length + 1)) ++ (spell (octN X.T X.low n2 v) (n2 / (2 * done.length + 1 + 1)) ++ txt n2 (wrdF (sgnF X.v) X.T X.low n2 vs ++ [endW]) (2 * done.length + 1 + 1)) from rfl] at XX hl
    obtain ⟨σ1, ln1, g1, X1, F1, l1⟩ := XX.get' Q hx hn hp (List.cons_ne_nil _ _) (show 1 ≤ 1000 by decide)
    obtain ⟨σ2, ln2, g2, X2, F2, l2⟩ := X1.get' Q hx hn (left_ws _) ho.2.2 (Nat.le_trans ho.2.1 (by decide))
    have hkey : mkS [sgnF X.v v] ∉ (bkP (sgnF X.v) X.T done).map (·.1) := by
      intro m
      unfold bkP at m
      rw [List.map_map] at m
      obtain ⟨k, hk, q⟩ := List.mem_map.mp m
      exact hvn (sg_inj (sgnF_ok X.v) (hd6 k hk) hv q ▸ hk)
    have hc1 : X.bk ≠ x.L := fun q => htb (q ▸ .head _)
    have hc2 : X.bk ≠ x.IT := fun q => htb (q ▸ .tail _ (.head _))
    have hnb : X.bk ∉ [x.L, x.IT] := fun m => (List.mem_cons.mp m).elim hc1 fun m => hc2 (List.mem_singleton.mp m)
    have hb2 : σ2[X.bk]? = some (.ds (bkP (sgnF X.v) X.T done)) := F2.at (F1.at hb hnb) hnb
    have hlt := at_lt hb2
    have hBl : (bkP (sgnF X.v) X.T done).length ≤ 100 := by unfold bkP; rw [List.length_map]; omega
    have S : ∀ l : List Nat, ((σ2 ++ [AO.it []] ++ [AO.dead] ++ List.replicate l.length AO.dead).set X.bk (.ds (bkP (sgnF X.v) X.T done ++ [(mkS [sgnF X.v v], rowS (sgnF X.v) l)])))[X.bk]? = some (.ds (bkP (sgnF X.v) X.T done ++ [(mkS [sgnF X.v v], rowS (sgnF X.v) l)])) := fun l => List.getElem?_set_self (by simp only [List.length_append]; omega)
    have hb3 : (σ2 ++ [AO.it []] ++ [AO.dead])[X.bk]? = some (.ds (bkP (sgnF X.v) X.T done)) := at_app (at_app hb2)
    have hm3 : (σ2 ++ [AO.it []] ++ [AO.dead])[σ2.length]? = some (.it []) := at_app at_len
    have F3 : Fm [X.bk] σ2 ((σ2 ++ [AO.it []] ++ [AO.dead] ++ List.replicate (X.T v).length AO.dead).set X.bk (.ds (bkP (sgnF X.v) X.T done ++ [(mkS [sgnF X.v v], rowS (sgnF X.v) (X.T v))]))) := (((Fm.app _ _ _).trans (Fm.app _ _ _)).trans (Fm.app _ _ _)).trans (Fm.set _ _ (.inl (.head _)))
    have hbk : bkP (sgnF X.v) X.T done ++ [(mkS [sgnF X.v v], rowS (sgnF X.v) (X.T v))] = bkP (sgnF X.v) X.T (done ++ [v]) := (List.map_append (f := fun i => (mkS [sgnF X.v i], rowS (sgnF X.v) (X.T i))) (l₁ := done) (l₂ := [v])).symm
    have S4 := S (X.T v)
    rw [hbk] at F3 S4
    have X4 := X2.frame F3 fun n m q => htb (List.mem_singleton.mp q ▸ m)
    have hi : 2 * (done ++ [v]).length = 2 * done.length + 1 + 1 := by rw [List.length_append]; rfl
    obtain ⟨σ', pre', ln', go, h', F'⟩ := rd_go (tot := tot) (n2 := n2) Q hx hn hL H htb vs (done ++ [v]) (left (n2 / (2 * done.length + 1 + 1))) ln2 _ ⟨by rw [List.append_assoc]; exact e, left_ws _, hi ▸ X4, S4, hi ▸ l2.trans (l1.trans hl)⟩
    refine ⟨σ', pre', ln', fun {A env p} => .next (.some _ _ _) (.v (i := 14) rfl rfl) ?_ go, h', ((F1.mono fun n m => ?_).trans (F2.mono fun n m => ?_)).trans ((F3.mono fun n m => ?_).trans F')⟩
    · have s0 : ((σ2 ++ [AO.it []] ++ [AO.dead]).set X.bk (.ds (bkP (sgnF X.v) X.T done ++ [(mkS [sgnF X.v v], rowS (sgnF X.v) [])]))) = ((σ2 ++ [AO.it []] ++ [AO.dead] ++ List.replicate ([] : List Nat).length AO.dead).set X.bk (.ds (bkP (sgnF X.v) X.T done ++ [(mkS [sgnF X.v v], rowS (sgnF X.v) [])]))) := by rw [show List.replicate ([] : List Nat).length AO.dead = [] from rfl, List.append_nil]
      rw [← hbk]
      refine TS_cons (rd_a0 Q hx hL (Nat.le_trans ho.2.1 (by decide)) XX.l X1.l g1 g2) (TS_cons (TS.st (rd_a1 (m := σ2.length) (w := n2 / (v + 1)) Q H hv at_len) (by rw [set_len])) (TS_cons (rd_a2 Q H hv hm3) (TS_cons (TS.st (TS_seti (d := rowS (sgnF X.v) []) (TE_tuple (ac TE_int (ac TE_int (ac TE_int (ac TE_int (a1 (tv 18 rfl)))))) (Nat.le_of_ble_eq_true rfl)) (tv 19 rfl) (tv 20 rfl) hb3 (Nat.le_trans hBl (by decide))) ((congrArg (fun l => List.set (σ2 ++ [AO.it []] ++ [AO.dead]) X.bk (.ds l)) (kset_new hkey _)).trans s0))
        (TS_cons (TS_for (TI_of (TP.rest made_L (TP_lm [43] (fun j : Nat => .str (nmA X.low j)) (fun j => .int (j : Nat)) (X.T v) (TI_of (tv 22 rfl) iter_lst) rfl (Nat.le_trans (H.T.len v hv) (by decide)) fun cenv j m => ⟨.v (i := 43) rfl rfl, .set rfl, TE_lindex (ss := (List.range 6).map (nmA X.low)) (nm_ix H.l (H.T.lt v hv j m)).1 (nm_ix H.l (H.T.lt v hv j m)).2 (by have := H.T.lt v hv j m; omega) (.z _) (.z _) (TE.val (tv 6 rfl) (by rw [List.map_map]; rfl)) (a1 (tv 43 rfl))⟩)) iter_lst)
          (Run.scan0 (e := fun j : Nat => .int (j : Nat)) (R := fun u0 => X.rw v (.loc σ2.length)) (S := fun l => ((σ2 ++ [AO.it []] ++ [AO.dead] ++ List.replicate l.length AO.dead).set X.bk (.ds (bkP (sgnF X.v) X.T done ++ [(mkS [sgnF X.v v], rowS (sgnF X.v) l)])))) (X.T v) rfl fun dn j todo ej => ⟨_, _, .v (i := 23) rfl rfl, .inl rfl, TS.st (rd_b Q H hv ej hkey hBl (S dn)) ?_⟩))
        (TS_cons (rd_c Q H hv hkey (S _)) (TS_cons (rd_d Q H hv hkey (S _)) (TS_nilf [14, 20, 21, 22])))))))
      rw [set_app_set (by simp only [List.length_append]; omega), List.length_append, List.append_assoc _ _ [AO.dead], ← List.replicate_succ']
      rfl
    · exact (List.mem_cons.mp m).elim (fun q => q ▸ .head _) fun m => List.mem_singleton.mp m ▸ .tail _ (.head _)
    · exact (List.mem_cons.mp m).elim (fun q => q ▸ .head _) fun m => List.mem_singleton.mp m ▸ .tail _ (.head _)
    · exact List.mem_singleton.mp m ▸ .tail _ (.tail _ (.head _))
end Mine
end
section
open PySem PySem.W PyProof.Rows
namespace Mine
noncomputable def HP (C : Cx) (P : Addr) (env : Env) : Prop := ∃ c, env.code = .ref c ∧ CodeHd C.h0 c P
structure Tb2 (σ : St) : Prop where
  a : ∃ q l, σ[0]? = some (.tab q l)
  b : ∃ q l, σ[1]? = some (.tab q l)
inductive EN (C : Cx) (P : Addr) (ρ : Rho) (i : Nat) (σ : St) : Prop
  | mk (σ' : St) (k : Tb2 σ') (go : ∀ {A env}, HP C P env → TR (.fn C A 8 fd16 env) ρ (execs (lwB i) env) σ (.bool true) σ') : EN C P ρ i σ
theorem EN.frp {C : Cx} {P : Addr} {ρ ρ' : Rho} {i j : Nat} {σ σ₁ : St} (h : EN C P ρ' j σ₁) (f : ∀ {A env σ'}, HP C P env → TR (.fn C A 8 fd16 env) ρ' (execs (lwB j) env) σ₁ (.bool true) σ' → TR (.fn C A 8 fd16 env) ρ (execs (lwB i) env) σ (.bool true) σ') : EN C P ρ i σ :=
  let ⟨σ', k, go⟩ := h; ⟨σ', k, fun hp => f hp (go hp)⟩
theorem EN.from {C : Cx} {P : Addr} {ρ ρ' : Rho} {i j : Nat} {σ σ₁ : St} (h : EN C P ρ' j σ₁) (f : ∀ {A env σ'}, TR (.fn C A 8 fd16 env) ρ' (execs (lwB j) env) σ₁ (.bool true) σ' → TR (.fn C A 8 fd16 env) ρ (execs (lwB i) env) σ (.bool true) σ') : EN C P ρ i σ := h.frp fun u0 t => f t
noncomputable def Lw.b (X : Lw) (l : List (Option D)) : Rho := X.r0 ([some X.p, none, none, some X.q, some (.loc X.L), some (.ds []), some (.ds (bkD (sgnF X.v) X.T)), none, none, none, none] ++ l)
section
variable {C : Cx} {X : Lw} {x : Lx} {σ : St} {n2 tot ln : Nat} {P : Addr}
theorem lw_16 (Q : Pr C) (hx : x.ct = Q.lx) (hn : x.Nd) (hL : X.L = x.L) (H : XOk X) (htb : X.bk ∉ x.cells) (I : RdI X x n2 tot (List.range 6) [] [] ln σ)
    (k : ∀ σ' pre ln', (∀ c ∈ pre, isWs c = true) → LX x ln' (pre ++ txt n2 [endW] 12) [] σ' → ln' + nls (pre ++ txt n2 [endW] 12) = tot → Fm [x.L, x.IT, X.bk] σ σ' → EN C P (X.b []) 17 σ') : EN C P (X.r none none none none) 16 σ := by
  obtain ⟨σ', pre, ln', go, h, F⟩ := rd_go Q hx hn hL H htb (List.range 6) [] [] ln σ I
  have hb := h.b
  have F2 : Fm [x.L, x.IT, X.bk] σ (σ'.set X.bk .dead) := F.trans (Fm.set _ _ (.inl (.tail _ (.tail _ (.head _)))))
  exact (k (σ'.set X.bk .dead) pre ln' h.p (h.XX.frame (Fm.set (S := [X.bk]) _ _ (.inl (.head _))) fun n m q => htb (List.mem_singleton.mp q ▸ m)) h.l F2).from fun t => TR_cons (TS_for (TI_range1 (n := 6) Q.G.range (by kernel_rfl) rfl (a1 TE_int) (by decide)) go) (TR.frz 19 rfl hb (.ds _) t)
noncomputable def turnV (ds : List Nat) : Int × Int := (1 - 2 * ((ds.getD 6 0 % 2 : Nat) : Int), 3 - 6 * ((ds.getD 6 0 / 2 % 2 : Nat) : Int))
noncomputable def turnD (t : Int × Int) : D := .lst [.int t.1, .int t.2]
theorem lw_17 (Q : Pr C) (hd : X.ds.length = 12) (h : EN C P (X.b [some (turnD (turnV X.ds))]) 18 σ) : EN C P (X.b []) 17 σ := h.from fun t =>
  TR_cons (TS_asg (i := 24) (d := turnD (turnV X.ds)) (TE_list (a2 (TE.val (TE_bin TE_int (TE_bin TE_int (TE_bin (TE_idx (tv 2 rfl) TE_int (nat_at (i := 6) (by omega) (by decide))) TE_int (bin_fmod (by decide))) (bin_mul (.inl (by decide)))) bin_sub) (by rw [show (2 : Int) = ((2 : Nat) : Int) from rfl, fmod_nat]; rfl))
    (TE.val (TE_bin TE_int (TE_bin TE_int (TE_bin (TE_bin (TE_idx (tv 2 rfl) TE_int (nat_at (i := 6) (by omega) (by decide))) TE_int (bin_fdiv (by decide) (by decide))) TE_int (bin_fmod (by decide))) (bin_mul (.inl (by decide)))) bin_sub) (by rw [show (2 : Int) = ((2 : Nat) : Int) from rfl, fdiv_nat, fmod_nat]; rfl))) (Nat.le_of_ble_eq_true rfl)) rfl rfl rfl) t
end
end Mine
end
section
open PySem PySem.W PyProof.Rows
namespace Mine
noncomputable def kwE : Expr → Expr
  | .Call _ _ (⟨_, v, _⟩ :: _) _ => v
  | _ => e0
noncomputable def lam0 : LamInfo := lamE (kwE (valS ((pT 16).body.getD 18 (.Pass default))))
noncomputable def lnL : List (Nat × Nat) := [posE (kwE (valS ((pT 16).body.getD 18 (.Pass default))))]
noncomputable def fdL0 : Fd := ⟨lam0.scope, ["sign", "turns", "ties", "signs"], [0], []⟩
noncomputable def capV (t : Int × Int) (T : Nat → List Nat) (v : Nat) : List (Str × D) := [("turns", turnD t), ("ties", tieD T), ("signs", .str (mkS (sgn6 v)))]
theorem fdL0_ok (t : Int × Int) (T : Nat → List Nat) (v : Nat) : fnB fdL0 lam0.params ((capV t T v).map (·.1)) = true := by
  show fnB fdL0 lam0.params ["turns", "ties", "signs"] = true
  kernel_rfl
theorem fdL0_free (t : Int × Int) (T : Nat → List Nat) (v : Nat) : ((capV t T v).map (·.1)).all (fun y => fdL0.scope.names.lookup y == some .free) = true := by
  show (["turns", "ties", "signs"] : List Str).all (fun y => fdL0.scope.names.lookup y == some .free) = true
  kernel_rfl
theorem fdL0_cap (t : Int × Int) (T : Nat → List Nat) (v : Nat) : capR fdL0 (capV t T v) = [none, some (turnD t), some (tieD T), some (.str (mkS (sgn6 v)))] := by kernel_rfl
theorem sg_occ (v : Nat) {i : Nat} (hi : i < 6) : Builtin.Str.occurrences (mkS (sgn6 v)) (mkS [sgnF v i]) 0 (mkS (sgn6 v)).length 1 = [i] :=
  (by decide +kernel : ∀ v < 4, ∀ i < 6, Builtin.Str.occurrences (mkS (sgnT.getD v [])) (mkS [(sgnT.getD v []).getD i 0]) 0 (mkS (sgnT.getD v [])).length 1 = [i]) (v % 4) (Nat.mod_lt v (by decide)) i hi
theorem sg_small (v : Nat) {i : Nat} (hi : i < 6) : sgnF v i < 128 := (by decide : ∀ v < 4, ∀ i < 6, (sgnT.getD v []).getD i 0 < 128) (v % 4) (Nat.mod_lt v (by decide)) i hi
noncomputable def keyI (t : Int × Int) (T : Nat → List Nat) (v i : Nat) : Int × Int := (t.1 * ((T i).length : Int), t.2 * ((sgnF v i : Nat) : Int))
structure TuOk (t : Int × Int) : Prop where
  a : t.1 = 1 ∨ t.1 = -1
  b : t.2 = 3 ∨ t.2 = -3
theorem turnV_ok (ds : List Nat) : TuOk (turnV ds) := ⟨by unfold turnV; dsimp only; omega, by unfold turnV; dsimp only; omega⟩
theorem key_ok {C : Cx} {t : Int × Int} {T : Nat → List Nat} {v i : Nat} {σ : St} (Q : Pr C) (hl : LamAt C 0 lam0) (ht : TuOk t) (hT : TOk T) (hi : i < 6) : LamTo C 3 0 (capV t T v) [sg (sgnF v i)] σ (pkD (keyI t T v i)) σ :=
  call_lam (f := fdL0) Q.G.lim hl.uniq (fdL0_ok t T v) (fdL0_free t T v) (by rw [fdL0_cap]; exact .cons 0 rfl rfl .nil) fun A env => by
    have hlen := hT.len i hi
    exact TE_tuple (a2 (TE_bin (TE_idx (tv 1 rfl) TE_int (idx_lst (.z _) (j := 0) rfl (by decide))) (TE.val (TE_bi Q.G.len (by kernel_rfl) rfl rfl (a1 (TE_idx (tv 2 rfl) (TE_sindex (sg_occ v hi) (tv 3 rfl) (a1 (tv 0 rfl))) (tie_at hi))) fun q r => bi_len (.z _) (by rw [natD, List.length_map]; omega) q.I r) (by rw [natD, List.length_map])) (bin_mul (.inl (by rcases ht.a with h | h <;> rw [h] <;> decide))))
      (TE_bin (TE_idx (tv 1 rfl) TE_int (idx_lst (.z _) (j := 1) rfl (by decide))) (TE_bi Q.G.ord (by kernel_rfl) rfl rfl (a1 (tv 0 rfl)) fun q r => bi_ord q.I r) (bin_mul (.inl (by rcases ht.b with h | h <;> rw [h] <;> decide))))) (Nat.le_of_ble_eq_true rfl)
end Mine
end
section
open PySem PySem.W PyProof.Rows
namespace Mine
noncomputable def bestI (k : Nat → Int × Int) (l : List Nat) (b : Nat) : Nat := l.foldl (fun b i => if ltP (k i) (k b) then i else b) b
noncomputable def keyC (t : Int × Int) (T : Nat → List Nat) (v c : Nat) : Int × Int := keyI t T v ((sgn6 v).idxOf c)
theorem keyC_at (t : Int × Int) (T : Nat → List Nat) (v : Nat) {i : Nat} (hi : i < 6) : keyC t T v (sgnF v i) = keyI t T v i :=
  congrArg (keyI t T v) ((by decide : ∀ v < 4, ∀ i < 6, (sgnT.getD v []).idxOf ((sgnT.getD v []).getD i 0) = i) (v % 4) (Nat.mod_lt v (by decide)) i hi)
noncomputable def firstI (t : Int × Int) (T : Nat → List Nat) (v : Nat) : Nat := bestI (keyI t T v) [1, 2, 3, 4, 5] 0
theorem bestI_lt (k : Nat → Int × Int) : ∀ (l : List Nat) (b : Nat), b < 6 → (∀ i ∈ l, i < 6) → bestI k l b < 6
  | [], b, h, _ => h
  | i :: l, b, h, h6 => bestI_lt k l _ (by show (if ltP (k i) (k b) then i else b) < 6; split; exact h6 i (.head _); exact h) fun j m => h6 j (.tail _ m)
theorem first_lt (t : Int × Int) (T : Nat → List Nat) (v : Nat) : firstI t T v < 6 := bestI_lt _ _ _ (by decide) (by decide)
theorem bestK_map (t : Int × Int) (T : Nat → List Nat) (v : Nat) : ∀ (l : List Nat) (b : Nat), b < 6 → (∀ i ∈ l, i < 6) → bestK (keyC t T v) (l.map (sgnF v)) (sgnF v b) = sgnF v (bestI (keyI t T v) l b)
  | [], _, _, _ => rfl
  | i :: l, b, h, h6 => by
    have e : (if ltP (keyC t T v (sgnF v i)) (keyC t T v (sgnF v b)) then sgnF v i else sgnF v b) = sgnF v (if ltP (keyI t T v i) (keyI t T v b) then i else b) := by
      rw [keyC_at t T v h, keyC_at t T v (h6 i (.head _))]; split <;> rfl
    show bestK (keyC t T v) (l.map (sgnF v)) (if ltP (keyC t T v (sgnF v i)) (keyC t T v (sgnF v b)) then sgnF v i else sgnF v b) = _
    rw [e]
    exact bestK_map t T v l _ (by split; exact h6 i (.head _); exact h) fun j m => h6 j (.tail _ m)
theorem fin_first (t : Int × Int) (T : Nat → List Nat) (v : Nat) : finK (keyC t T v) none (sgn6 v) = some (sgnF v (firstI t T v)) := by
  rw [sgn6_map]
  exact congrArg some (bestK_map t T v [1, 2, 3, 4, 5] 0 (by decide) (by decide))
section
variable {C : Cx} {X : Lw} {σ : St} {tl : Nat} {P : Addr} {t : Int × Int}
theorem lw_18 (Q : Pr C) (hl : LamAt C 0 lam0) (hb : C.h0.BuiltinsAt C.mg P) (ht : TuOk t) (hT : TOk X.T) (h0 : σ[tl]? = some (.tab P []))
    (h : EN C P (X.b [some (turnD t), some (.str (mkS [sgnF X.v (firstI t X.T X.v)]))]) 19 (σ.set tl (.tab P lnL))) : EN C P (X.b [some (turnD t)]) 18 σ := h.frp fun hP u =>
  TR_cons (TS_asg (i := 25) (TE_minK (kf := keyC t X.T X.v) Q.G.min (by kernel_rfl) (tv 3 rfl) (TE_lam (t := tl) (j := 0) (c := capV t X.T X.v) ⟨hP, hb, h0⟩ rfl hl.is (.cons 24 rfl rfl (by kernel_rfl) (.cons 12 rfl rfl (by kernel_rfl) (.cons 3 rfl rfl (by kernel_rfl) .nil))) (by kernel_rfl) (by show _ = true; kernel_rfl)) (m := 3) (Nat.le_of_ble_eq_true rfl) (fun c m => by
    rw [sgn6_map] at m
    obtain ⟨i, mi, rfl⟩ := List.mem_map.mp m
    have hi := List.mem_range.mp mi
    rw [keyC_at _ _ _ hi]
    exact key_ok Q hl ht hT hi) (fin_first t X.T X.v)) rfl rfl rfl) u
end
end Mine
end
section
open PySem PySem.W PyProof.Rows
namespace Mine
noncomputable def rowI (T : Nat → List Nat) (v i : Nat) : Int × Str := (((T i).length : Int), mkS [sgnF v i])
theorem one_lt {a b : Nat} : ((mkS [a]).cps.toList < (mkS [b]).cps.toList) ↔ a < b := by
  show List.Lex (· < ·) [a] [b] ↔ a < b
  constructor
  · intro h
    cases h with
    | rel h => exact h
    | cons h => cases h
  · exact fun h => List.Lex.rel h
theorem cmp_key {t : Int × Int} (ht : TuOk t) (T : Nat → List Nat) (v i b : Nat) : cmpR t.1 t.2 (rowI T v i) (rowI T v b) = if (T i).length = (T b).length then (if sgnF v i = sgnF v b then 0 else if ltP (keyI t T v i) (keyI t T v b) then -3 else 3) else if ltP (keyI t T v i) (keyI t T v b) then -1 else 1 := by
  unfold cmpR rowI keyI ltP
  dsimp only
  simp only [one_lt]
  obtain ⟨t1, t2⟩ := t
  obtain ⟨h1, h2⟩ := ht
  dsimp only at h1 h2 ⊢
  generalize (T i).length = a
  generalize (T b).length = c
  generalize sgnF v i = x
  generalize sgnF v b = y
  rcases h1 with rfl | rfl <;> rcases h2 with rfl | rfl <;> (repeat' split) <;> simp_all <;> omega
theorem cmp_neg {t : Int × Int} (ht : TuOk t) (T : Nat → List Nat) (v i b : Nat) : decide (cmpR t.1 t.2 (rowI T v i) (rowI T v b) < 0) = ltP (keyI t T v i) (keyI t T v b) := by
  rw [cmp_key ht]
  have hself : (T i).length = (T b).length → sgnF v i = sgnF v b → ltP (keyI t T v i) (keyI t T v b) = false := fun e1 e2 => by
    unfold ltP keyI
    rw [e1, e2, if_pos rfl]; exact decide_eq_false (Int.lt_irrefl _)
  split
  · next e1 =>
    split
    · next e2 => rw [hself e1 e2]; rfl
    · cases ltP (keyI t T v i) (keyI t T v b) <;> rfl
  · cases ltP (keyI t T v i) (keyI t T v b) <;> rfl
end Mine
end
section
open PySem PySem.W PyProof.Rows
namespace Mine
theorem bestI_snoc (k : Nat → Int × Int) (l : List Nat) (b i : Nat) : bestI k (l ++ [i]) b = if ltP (k i) (k (bestI k l b)) then i else bestI k l b := List.foldl_append
theorem best_first (t : Int × Int) (T : Nat → List Nat) (v : Nat) : bestI (keyI t T v) (List.range 6) 0 = firstI t T v := by
  show bestI (keyI t T v) [1, 2, 3, 4, 5] (if ltP (keyI t T v 0) (keyI t T v 0) then 0 else 0) = _
  rw [ite_self]; rfl
noncomputable def rowsD (T : Nat → List Nat) (v : Nat) : D := .lst ((List.range 6).map fun i => rowD (rowI T v i))
section
variable {C : Cx} {X : Lw} {σ : St} {t : Int × Int} {a m : Nat} {P : Addr}
noncomputable def Lw.f (X : Lw) (t : Int × Int) (a n : Nat) (l : List (Option D)) : Rho := X.b ([some (turnD t), some (.str (mkS [sgnF X.v a])), some (.loc n)] ++ l)
theorem lw_19 (Q : Pr C) (h : EN C P (X.f t a σ.length []) 20 (σ ++ [.ins Q.tc (tcF (ordD t.1 t.2))])) : EN C P (X.b [some (turnD t), some (.str (mkS [sgnF X.v a]))]) 19 σ := h.from fun u =>
  TR_cons (TS_asg (i := 26) (TE.st (TE_new (j := 1) (tinit_fn Q.G Q.T0 Q.ti (ordD t.1 t.2) at_len) (Nat.le_of_ble_eq_true rfl) Q.tg Q.tn (by kernel_rfl) rfl (a1 (TE_list (a2 (TE_tuple (a2 TE_int (TE_idx (tv 24 rfl) TE_int (idx_lst (.z _) (j := 0) rfl (by decide)))) (Nat.le_of_ble_eq_true rfl)) (TE_tuple (a2 TE_int (TE_idx (tv 24 rfl) TE_int (idx_lst (.z _) (j := 1) rfl (by decide)))) (Nat.le_of_ble_eq_true rfl))) (Nat.le_of_ble_eq_true rfl)))) set_len) rfl rfl rfl) u
theorem lw_20 (Q : Pr C) (h : EN C P (X.f t a m [some (rowsD X.T X.v), some (rowD (rowI X.T X.v 0))]) 22 σ) : EN C P (X.f t a m []) 20 σ := h.from fun u =>
  TR_cons (TS_lm 27 [20] (fun i : Nat => .str (mkS [sgnF X.v i])) (fun i => rowD (rowI X.T X.v i)) (List.range 6) (TI_of (tv 3 rfl) iter_str) (by rw [signs_mk, sgn6_map, List.map_map]; rfl) (by decide) (fun cenv i mi => ⟨.v (i := 20) rfl rfl, .set rfl, TE_tuple (a2 (TE_idx (TE_idx (tv 19 rfl) (tv 20 rfl) (idx_ds (.z _) (bk_at (sgnF_ok X.v) X.T (List.mem_range.mp mi)))) TE_int idx_t0) (tv 20 rfl)) (Nat.le_of_ble_eq_true rfl)⟩) rfl rfl)
    (TR_cons (TS_asg (i := 28) (TE_idx (tv 27 rfl) TE_int (idx_lst (.z _) (j := 0) rfl (by decide))) rfl rfl rfl) u)
theorem lw_22 (Q : Pr C) (ht : TuOk t) (hr : σ[m]? = some (.ins Q.tc (tcF (ordD t.1 t.2)))) (h : EN C P (X.f t a m [some (rowsD X.T X.v), some (rowD (rowI X.T X.v (firstI t X.T X.v)))]) 23 σ) : EN C P (X.f t a m [some (rowsD X.T X.v), some (rowD (rowI X.T X.v 0))]) 22 σ := h.from fun u => by
  rw [← best_first] at u
  refine TR_cons (TS_for (TI_of (tv 27 rfl) iter_lst) (Run.scan0 (e := fun i : Nat => rowD (rowI X.T X.v i)) (R := fun l => X.f t a m [some (rowsD X.T X.v), some (rowD (rowI X.T X.v (bestI (keyI t X.T X.v) l 0)))]) (S := fun u0 => σ) (List.range 6) rfl fun done i todo e => ?_)) u
  rw [bestI_snoc]
  refine ⟨_, _, .v (i := 29) rfl rfl, .inl rfl, TS_cons (TS_ifB (ρ' := (X.f t a m [some (rowsD X.T X.v), some (rowD (rowI X.T X.v (if ltP (keyI t X.T X.v i) (keyI t X.T X.v (bestI (keyI t X.T X.v) done 0)) then i else bestI (keyI t X.T X.v) done 0)))]).set 29 (some (rowD (rowI X.T X.v i)))) (TB.to (TB_cmp (TE_mcall (compare_fn Q.G Q.T1 Q.ti t.1 t.2 (rowI X.T X.v i) (rowI X.T X.v (bestI (keyI t X.T X.v) done 0)) hr) (Nat.le_of_ble_eq_true rfl) Q.tm Q.T1.isFn rfl (tv 26 rfl) hr (by kernel_rfl) (a2 (tv 29 rfl) (tv 28 rfl))) TE_int cmp_lt rfl) (cmp_neg ht X.T X.v i _)) (fun q => ?_) fun q => ?_) (TS_nilf [29])⟩
  · rw [if_pos q]
    exact TS_cons (TS_asg (i := 28) (tv 29 rfl) rfl rfl rfl) TS_nil
  · rw [if_neg (ne_true_of_eq_false q)]
    exact TS_nil
end
end Mine
end
section
open PySem PySem.W PyProof.Rows
namespace Mine
theorem ltP_tr {a b c : Int × Int} (h1 : ltP c b = true) (h2 : ltP a b = false) : ltP a c = false := by
  unfold ltP at *
  split at h1 <;> split at h2 <;> split <;> simp only [decide_eq_true_eq, decide_eq_false_iff_not] at * <;> omega
theorem ltP_irr (a : Int × Int) : ltP a a = false := by
  unfold ltP
  rw [if_pos rfl]; exact decide_eq_false (Int.lt_irrefl _)
theorem best_min (k : Nat → Int × Int) : ∀ (l : List Nat) (b : Nat), (∀ i ∈ l, ltP (k i) (k (bestI k l b)) = false) ∧ ltP (k b) (k (bestI k l b)) = false
  | [], b => ⟨(fun u0 m => nomatch m), ltP_irr _⟩
  | i :: l, b => by
    show (∀ j ∈ i :: l, ltP (k j) (k (bestI k l (if ltP (k i) (k b) then i else b))) = false) ∧ ltP (k b) (k (bestI k l (if ltP (k i) (k b) then i else b))) = false
    obtain ⟨h1, h2⟩ := best_min k l (if ltP (k i) (k b) then i else b)
    have asym : ∀ {x y : Int × Int}, ltP x y = true → ltP y x = false := fun {x y} h => ltP_tr h (ltP_irr y)
    have le : ∀ {x y z : Int × Int}, ltP x y = false → ltP y z = false → ltP x z = false := fun {x y z} a b => by
      unfold ltP at *
      split at a <;> split at b <;> split <;> simp only [decide_eq_false_iff_not] at * <;> omega
    cases q : ltP (k i) (k b) with
    | true =>
      rw [q, if_pos rfl] at h1 h2
      rw [if_pos rfl]
      exact ⟨List.forall_mem_cons.mpr ⟨h2, h1⟩, le (asym q) h2⟩
    | false =>
      rw [q, if_neg Bool.false_ne_true] at h1 h2
      rw [if_neg Bool.false_ne_true]
      exact ⟨List.forall_mem_cons.mpr ⟨le q h2, h1⟩, h2⟩
theorem first_min (t : Int × Int) (T : Nat → List Nat) (v : Nat) {i : Nat} (hi : i < 6) : ltP (keyI t T v i) (keyI t T v (firstI t T v)) = false := by
  rw [← best_first]
  exact (best_min _ (List.range 6) 0).1 i (List.mem_range.mpr hi)
noncomputable def askI (T : Nat → List Nat) (v a i : Nat) : Int := if (rowI T v i).1 == (rowI T v a).1 && (rowI T v i).2 == (rowI T v a).2 then 0 else if !((rowI T v i).1 == (rowI T v a).1) then 1 else 3
theorem cmp_first {t : Int × Int} (ht : TuOk t) (T : Nat → List Nat) (v : Nat) {i : Nat} (hi : i < 6) : cmpR t.1 t.2 (rowI T v i) (rowI T v (firstI t T v)) = askI T v (firstI t T v) i := by
  rw [cmp_key ht, first_min t T v hi]
  unfold askI rowI
  dsimp only
  by_cases e1 : (T i).length = (T (firstI t T v)).length
  · rw [if_pos e1, e1, BEq.rfl]
    by_cases e2 : sgnF v i = sgnF v (firstI t T v)
    · rw [if_pos e2, e2, BEq.rfl]; rfl
    · rw [if_neg e2, beq_eq_false_iff_ne.mpr fun q => e2 (List.cons.inj (mkS_inj.mp q)).1]; rfl
  · have : (((T i).length : Int) == ((T (firstI t T v)).length : Int)) = false := beq_eq_false_iff_ne.mpr fun q => e1 (Int.ofNat.inj q)
    rw [if_neg e1, this]; rfl
theorem row_rd {σ : St} {x : Int × Str} : Rd σ (rowD x) (.tuple [.int x.1, .str x.2]) := rd_tup (rdL_cons rd_int (rdL_cons rd_str rdL_nil))
theorem row_eq {σ : St} {T : Nat → List Nat} {v i a : Nat} (hi : i < 6) (ha : a < 6) : CmpOk σ .Eq (rowD (rowI T v i)) (rowD (rowI T v a)) ((rowI T v i).1 == (rowI T v a).1 && (rowI T v i).2 == (rowI T v a).2) := by
  have hp : ∀ i, i < 6 → Pl 1 (.tuple [.int (rowI T v i).1, .str (rowI T v i).2]) := fun i hi => .tuple (.cons .int (.cons (.str (sg_ok v i hi)) .nil))
  have h := cmp_eqd (σ := σ) (a := rowD (rowI T v i)) (b := rowD (rowI T v a)) row_rd row_rd ((hp i hi).shaped (by decide)) ((hp a ha).shaped (by decide))
  have e : PyData.eqv (.tuple [.int (rowI T v i).1, .str (rowI T v i).2]) (.tuple [.int (rowI T v a).1, .str (rowI T v a).2]) = ((rowI T v i).1 == (rowI T v a).1 && (rowI T v i).2 == (rowI T v a).2) := by
    simp only [PyData.eqv, PyData.eqvAll, Bool.and_true]
  rwa [e] at h
section
variable {C : Cx} {X : Lw} {σ : St} {t : Int × Int} {m : Nat} {P : Addr}
theorem lw_23 (Q : Pr C) (ht : TuOk t) (hr : σ[m]? = some (.ins Q.tc (tcF (ordD t.1 t.2)))) (h : EN C P (X.f t (firstI t X.T X.v) m [some (rowsD X.T X.v), some (rowD (rowI X.T X.v (firstI t X.T X.v)))]) 24 σ) : EN C P (X.f t (firstI t X.T X.v) m [some (rowsD X.T X.v), some (rowD (rowI X.T X.v (firstI t X.T X.v)))]) 23 σ := h.from fun u => by
  have ha := first_lt t X.T X.v
  have hP : Pl 1 (.list ((List.range 6).map fun i => .int (askI X.T X.v (firstI t X.T X.v) i))) := .list (.map fun i m => .int)
  have hR : ∀ {σ : St}, Rd σ (.lst ((List.range 6).map fun i => .int (askI X.T X.v (firstI t X.T X.v) i))) (.list ((List.range 6).map fun i => .int (askI X.T X.v (firstI t X.T X.v) i))) := fun {σ} => rd_lst (.z _) (rdL_map fun i m => rd_int)
  refine TR_cons (TS_if_f (TB.to (TB_boolop (TB_or (TB_cmp (TE_idx (tv 28 rfl) TE_int idx_t1) (tv 25 rfl) cmp_nes rfl) (TB_or (TB_cmp (TP.rest made_L (TP_lm [29] (fun i : Nat => rowD (rowI X.T X.v i)) (fun i => .int (askI X.T X.v (firstI t X.T X.v) i)) (List.range 6) (TI_of (tv 27 rfl) iter_lst) rfl (by decide) fun cenv i mi => ⟨.v (i := 29) rfl rfl, .set rfl, TE.val (TE_mcall (compare_fn Q.G Q.T1 Q.ti t.1 t.2 (rowI X.T X.v i) (rowI X.T X.v (firstI t X.T X.v)) hr) (Nat.le_of_ble_eq_true rfl) Q.tm Q.T1.isFn rfl (tv 26 rfl) hr (by kernel_rfl) (a2 (tv 29 rfl) (tv 28 rfl))) (congrArg D.int (cmp_first ht X.T X.v (List.mem_range.mp mi)))⟩))
    (TP.rest made_L (TP_lm [29] (fun i : Nat => rowD (rowI X.T X.v i)) (fun i => .int (askI X.T X.v (firstI t X.T X.v) i)) (List.range 6) (TI_of (tv 27 rfl) iter_lst) rfl (by decide) fun cenv i mi => ⟨.v (i := 29) rfl rfl, .set rfl, TE_ite (TB_cmp (tv 29 rfl) (tv 28 rfl) (row_eq (List.mem_range.mp mi) ha) rfl) (fun q => TE_int.val (congrArg D.int (if_pos q).symm)) fun q => TE_ite (TB_cmp (TE_idx (tv 29 rfl) TE_int idx_t0) (TE_idx (tv 28 rfl) TE_int idx_t0) cmp_nei rfl) (fun q2 => TE_int.val (congrArg D.int ((if_neg (ne_true_of_eq_false q)).trans (if_pos q2)).symm)) fun q2 => TE_int.val (congrArg D.int ((if_neg (ne_true_of_eq_false q)).trans (if_neg (ne_true_of_eq_false q2))).symm)⟩)) (cmp_same hP (by decide) hR hR) rfl) TB_or_nil))) (by rw [show ((rowI X.T X.v (firstI t X.T X.v)).2 == mkS [sgnF X.v (firstI t X.T X.v)]) = true from beq_self_eq_true _]; rfl)) TS_nil) u
end
end Mine
end
section
open PySem PySem.W PyProof.Rows
namespace Mine
structure Gr (k : Nat) (L : List (List Nat)) : Prop where
  l : ∀ p ∈ L, p.length = k + 1
  m : ∀ p ∈ L, ∀ x ∈ p, x < 6
  n : L.length ≤ 6 ^ k
noncomputable def growK (T : Nat → List Nat) (a : Nat) : Nat → List (List Nat)
  | 0 => [[a]]
  | k + 1 => growL T (growK T a k)
theorem last_app {p : List Nat} {k : Nat} (h : p.length = k + 1) : ∃ l, p = l ++ [p.getLastD 0] := by
  have hne : p ≠ [] := fun e => by rw [e] at h; cases h
  refine ⟨p.dropLast, ?_⟩
  rw [List.getLastD_eq_getLast?, List.getLast?_eq_some_getLast hne]
  exact (List.dropLast_concat_getLast hne).symm
theorem grow_ok {T : Nat → List Nat} (hT : TOk T) {k : Nat} {L : List (List Nat)} (h : Gr k L) : Gr (k + 1) (growL T L) := by
  have last : ∀ p ∈ L, p.getLastD 0 < 6 := fun p m => by
    obtain ⟨l, e⟩ := last_app (h.l p m)
    exact h.m p m _ (by rw [e]; exact List.mem_append_right _ (by rw [← e]; exact .head _))
  have key : ∀ q ∈ growL T L, ∃ p ∈ L, ∃ j ∈ T (p.getLastD 0), q = p ++ [j] := fun q m => by
    obtain ⟨p, mp, m⟩ := List.mem_flatMap.mp m
    obtain ⟨j, mj, rfl⟩ := List.mem_map.mp m
    exact ⟨p, mp, j, (List.mem_filter.mp mj).1, rfl⟩
  refine ⟨fun q m => ?_, fun q m x mx => ?_, ?_⟩
  · obtain ⟨p, mp, j, mj, rfl⟩ := key q m
    rw [List.length_append, h.l p mp]; rfl
  · obtain ⟨p, mp, j, mj, rfl⟩ := key q m
    rcases List.mem_append.mp mx with mx | mx
    · exact h.m p mp x mx
    · exact List.mem_singleton.mp mx ▸ hT.lt _ (last p mp) j mj
  · unfold growL
    rw [List.length_flatMap]
    refine Nat.le_trans (?_ : _ ≤ L.length * 6) (by rw [Nat.pow_succ]; exact Nat.mul_le_mul_right 6 h.n)
    have : ∀ L' : List (List Nat), (∀ p ∈ L', p ∈ L) → (L'.map fun p => (((T (p.getLastD 0)).filter fun j => !p.contains j).map fun j => p ++ [j]).length).sum ≤ L'.length * 6 := fun L' => by
      induction L' with
      | nil => intro _; exact Nat.le_refl _
      | cons p L' ih =>
        intro hs
        have i1 := ih fun q m => hs q (.tail _ m)
        rw [List.map_cons, List.sum_cons, List.length_cons, Nat.succ_mul, Nat.add_comm]
        exact Nat.add_le_add i1 (by rw [List.length_map]; exact Nat.le_trans (List.length_filter_le _ _) (hT.len _ (last p (hs p (.head _)))))
    exact this L fun u0 m => m
theorem growK_ok {T : Nat → List Nat} (hT : TOk T) {a : Nat} (ha : a < 6) : ∀ k, Gr k (growK T a k)
  | 0 => ⟨fun p m => by cases List.mem_singleton.mp m; rfl, fun p m x mx => by cases List.mem_singleton.mp m; cases List.mem_singleton.mp mx; exact ha, Nat.le_refl _⟩
  | k + 1 => grow_ok hT (growK_ok hT ha k)
theorem grow_D (s : Nat → Nat) (T : Nat → List Nat) (L : List (List Nat)) : (L.flatMap fun p => ((T (p.getLastD 0)).filter fun j => !p.contains j).map fun j => D.str (lnX s (p ++ [j]))) = lnD s (growL T L) := by
  unfold lnD growL
  rw [List.map_flatMap, List.map_flatMap]
  congr 1
  funext p
  rw [List.map_map, List.map_map]; rfl
section
variable {C : Cx} {X : Lw} {σ : St} {t : Int × Int} {m a : Nat} {P : Addr}
noncomputable def Lw.g (X : Lw) (t : Int × Int) (a m : Nat) (l : List (Option D)) : Rho := X.f t a m ([some (rowsD X.T X.v), some (rowD (rowI X.T X.v a)), none] ++ l)
theorem lw_24 (Q : Pr C) (H : XOk X) (ha : a < 6) (h : EN C P (X.g t a m [some (.lst (lnD (sgnF X.v) (growK X.T a 5)))]) 26 σ) : EN C P (X.g t a m []) 24 σ := h.from fun u => by
  refine TR_cons (TS_asg (i := 30) (d := .lst (lnD (sgnF X.v) (growK X.T a 0))) (TE_list (a1 (tv 25 rfl)) (Nat.le_of_ble_eq_true rfl)) rfl rfl rfl) ?_
  refine TR_cons (TS_for (TI_range1 (n := 5) Q.G.range (by kernel_rfl) rfl (a1 TE_int) (by decide)) (Run.scan0 (e := fun i : Nat => .int (i : Nat)) (R := fun l => X.g t a m [some (.lst (lnD (sgnF X.v) (growK X.T a l.length)))]) (S := fun u0 => σ) (List.range 5) rfl fun done i todo e => ?_)) u
  have hk : done.length ≤ 4 := by have := congrArg List.length e; rw [List.length_range, List.length_append, List.length_cons] at this; omega
  have G := growK_ok H.T ha done.length
  have G1 := grow_ok H.T G
  have hz : (growL X.T (growK X.T a done.length)).length ≤ 7776 := Nat.le_trans G1.n (Nat.pow_le_pow_right (n := 6) (by decide) (show done.length + 1 ≤ 5 by omega))
  have last : ∀ p ∈ growK X.T a done.length, p.getLastD 0 < 6 := fun p m => by
    obtain ⟨l, e⟩ := last_app (G.l p m)
    exact G.m p m _ (by rw [e]; exact List.mem_append_right _ (by rw [← e]; exact .head _))
  refine ⟨_, _, .v (i := 31) rfl rfl, .inl rfl, TS_cons (TS_ll 6 30 [36, 23] (fun p : List Nat => .str (lnX (sgnF X.v) p)) (fun p => X.T (p.getLastD 0)) (fun j => .int (j : Nat)) (fun p j => .str (lnX (sgnF X.v) (p ++ [j]))) (fun p j => !p.contains j) (growK X.T a done.length) (TI_of (tv 30 rfl) iter_lst) (by unfold lnD; rw [List.map_map]; rfl) (fun p mp => H.T.len _ (last p mp)) (by rw [grow_D, lnD_len]; omega) (fun cenv p mp => ?_) rfl rfl) ?_⟩
  · obtain ⟨l, el⟩ := last_app (G.l p mp)
    have hl := last p mp
    refine ⟨.v (i := 36) rfl rfl, .set rfl, TI_of (TE_idx (tv 12 rfl) (TE_sindex (sg_occ X.v hl) (tv 3 rfl) (a1 (TE_idx (TE.val (tv 36 rfl) (show D.str (lnX (sgnF X.v) p) = .str (mkS (l.map (sgnF X.v) ++ [sgnF X.v (p.getLastD 0)])) from by rw [← List.map_singleton (f := sgnF X.v), ← List.map_append, ← el]; rfl)) (TE_neg TE_int) (idx_strN (by have := congrArg List.length el; rw [G.l p mp, List.length_append] at this; rw [List.length_map]; have h1 : [p.getLastD 0].length = 1 := rfl; omega))))) (tie_at hl)) iter_lst, fun j mj => ?_⟩
    have hj := H.T.lt _ hl j mj
    refine ⟨.v (i := 23) rfl rfl, .set rfl, TT_one (TB.to (TB_cmp (TE_idx (tv 3 rfl) (tv 23 rfl) (sgn_at hj)) (tv 36 rfl) cmp_nins rfl) ?_), fun u0 => TE.val (TE_bin (tv 36 rfl) (TE_idx (tv 3 rfl) (tv 23 rfl) (sgn_at hj)) (bin_cat (by rw [List.length_map, G.l p mp]; show _ + 1 ≤ _; omega))) (by unfold lnX; rw [List.map_append]; rfl)⟩
    rw [show lnX (sgnF X.v) p = mkS (p.map (sgnF X.v)) from rfl, in1]
    refine congrArg not (Bool.eq_iff_iff.mpr ?_)
    rw [List.contains_iff_mem, List.contains_iff_mem, List.mem_map]
    exact ⟨fun ⟨y, my, e⟩ => sgnF_ok X.v y (G.m p mp y my) j hj e ▸ my, fun my => ⟨j, my, rfl⟩⟩
  · rw [grow_D, List.length_append]
    exact TS_nilf [31]
end
end Mine
end
section
open PySem PySem.W PyProof.Rows
namespace Mine
noncomputable def keyS (s : Nat → Nat) (k : Nat) : Str := mkS [s (k / 6), s (k % 6)]
noncomputable def tabT (s : Nat → Nat) (t : List (Nat × Nat)) : List (Str × Int) := t.map fun p => (keyS s p.1, ((p.2 : Nat) : Int))
theorem keyS_inj {s : Nat → Nat} (h : SgOk s) {a b : Nat} (ha : a < 36) (hb : b < 36) (e : keyS s a = keyS s b) : a = b := by
  have e := mkS_inj.mp e
  rw [List.cons.injEq, List.cons.injEq] at e
  have e1 := h _ (by omega) _ (by omega) e.1
  have e2 := h _ (Nat.mod_lt _ (by decide)) _ (Nat.mod_lt _ (by decide)) e.2.1
  omega
theorem tab_bump {s : Nat → Nat} (h : SgOk s) {k : Nat} (hk : k < 36) : ∀ t : List (Nat × Nat), (∀ p ∈ t, p.1 < 36) → aset (tabT s t) (keyS s k) ((aget (tabT s t) (keyS s k)).getD 0 + 1) = tabT s (bumpN t k)
  | [], _ => rfl
  | (j, c) :: t, h6 => by
    have hj := h6 (j, c) (.head _)
    have ih := tab_bump h hk t fun p m => h6 p (.tail _ m)
    show (if keyS s j = keyS s k then (keyS s j, (if keyS s j = keyS s k then some ((c : Nat) : Int) else aget (tabT s t) (keyS s k)).getD 0 + 1) :: tabT s t else (keyS s j, ((c : Nat) : Int)) :: aset (tabT s t) (keyS s k) ((if keyS s j = keyS s k then some ((c : Nat) : Int) else aget (tabT s t) (keyS s k)).getD 0 + 1)) = tabT s (if (j == k) = true then (j, c + 1) :: t else (j, c) :: bumpN t k)
    by_cases e : j = k
    · subst e; rw [if_pos rfl, if_pos rfl, if_pos BEq.rfl]; rfl
    · have e2 : keyS s j ≠ keyS s k := fun q => e (keyS_inj h hj hk q)
      rw [if_neg e2, if_neg e2, if_neg (by rw [beq_iff_eq]; exact e), ih]; rfl
theorem bump_lt {k : Nat} (hk : k < 36) : ∀ t : List (Nat × Nat), (∀ p ∈ t, p.1 < 36) → ∀ p ∈ bumpN t k, p.1 < 36
  | [], _, p, m => by cases List.mem_singleton.mp m; exact hk
  | (j, c) :: t, h6, p, m => by
    have m : p ∈ (if (j == k) = true then (j, c + 1) :: t else (j, c) :: bumpN t k) := m
    split at m
    · rcases List.mem_cons.mp m with rfl | m
      · exact h6 (j, c) (.head _)
      · exact h6 p (.tail _ m)
    · rcases List.mem_cons.mp m with rfl | m
      · exact h6 (j, c) (.head _)
      · exact bump_lt hk t (fun q m => h6 q (.tail _ m)) p m
theorem tab_adds {s : Nat → Nat} (h : SgOk s) : ∀ (ks : List Nat) (t : List (Nat × Nat)), (∀ k ∈ ks, k < 36) → (∀ p ∈ t, p.1 < 36) → addC (tabT s t) (ks.map fun k => (keyS s k, 1)) = tabT s (ks.foldl bumpN t) ∧ ∀ p ∈ ks.foldl bumpN t, p.1 < 36
  | [], t, _, h6 => ⟨rfl, h6⟩
  | k :: ks, t, hk, h6 => by
    have h1 := hk k (.head _)
    have ih := tab_adds h ks (bumpN t k) (fun j m => hk j (.tail _ m)) (bump_lt h1 t h6)
    refine ⟨?_, ih.2⟩
    rw [← show _ = addC (tabT s t) ((k :: ks).map fun k => (keyS s k, 1)) from rfl]
    show addC (aset (tabT s t) (keyS s k) ((aget (tabT s t) (keyS s k)).getD 0 + 1)) (ks.map fun k => (keyS s k, 1)) = _
    rw [tab_bump h h1 t h6]
    exact ih.1
theorem bump_nd {k : Nat} : ∀ t : List (Nat × Nat), (t.map (·.1)).Nodup → ((bumpN t k).map (·.1)).Nodup ∧ ∀ x ∈ (bumpN t k).map (·.1), x = k ∨ x ∈ t.map (·.1)
  | [], _ => ⟨List.nodup_cons.mpr ⟨List.not_mem_nil, .nil⟩, fun x m => .inl (List.mem_singleton.mp m)⟩
  | (j, c) :: t, hn => by
    have hn' := List.nodup_cons.mp hn
    have ih := bump_nd (k := k) t hn'.2
    show ((if (j == k) = true then (j, c + 1) :: t else (j, c) :: bumpN t k).map (·.1)).Nodup ∧ ∀ x ∈ (if (j == k) = true then (j, c + 1) :: t else (j, c) :: bumpN t k).map (·.1), x = k ∨ x ∈ ((j, c) :: t).map (·.1)
    by_cases e : (j == k) = true
    · rw [if_pos e]; exact ⟨hn, fun x m => .inr m⟩
    · rw [if_neg e]
      refine ⟨List.nodup_cons.mpr ⟨fun m => (ih.2 j m).elim (fun q => e (beq_iff_eq.mpr q)) hn'.1, ih.1⟩, fun x m => ?_⟩
      rcases List.mem_cons.mp m with rfl | m
      · exact .inr (.head _)
      · exact (ih.2 x m).imp id fun m => .tail _ m
section
variable {C : Cx} {X : Lw} {σ : St} {t : Int × Int} {m a : Nat} {ls : D} {P : Addr}
theorem lw_26 (h : EN C P (X.g t a m [some ls, none, some (.loc σ.length), some (statD (0, 0, 0, 0) [])]) 27 (σ ++ [.lst []])) : EN C P (X.g t a m [some ls]) 26 σ := h.from fun u =>
  TR_cons (TS_asgT0 (TE_tuple (a2 (TP.loc made_L (TP_list an (Nat.zero_le _))) (TE_tuple (ac TE_int (ac TE_int (ac TE_int (ac TE_int (a1 (tv 18 rfl)))))) (Nat.le_of_ble_eq_true rfl))) (Nat.le_of_ble_eq_true rfl)) (.t (.cons (i := 32) rfl rfl (.cons (i := 33) rfl rfl (.nil _))))) u
end
end Mine
end
section
open PySem PySem.W PyProof.Rows
namespace Mine
structure LnA (a : Nat) (p : List Nat) : Prop extends Ln p where
  nd : p.Nodup
  hd : p.take 1 = [a]
noncomputable def totD (s : Nat → Nat) (t : Tot) : D := statD ((t.rounds : Int), (t.count : Int), (t.sum : Int), (t.sq : Int)) (tabT s t.tab)
structure TotOk (t : Tot) : Prop where
  k : ∀ p ∈ t.tab, p.1 < 36
  nd : (t.tab.map (·.1)).Nodup
theorem pairs_lt {p : List Nat} (h : ∀ x ∈ p, x < 6) : ∀ k ∈ pairsN p, k < 36 := fun k m => by
  obtain ⟨⟨x, y⟩, mz, rfl⟩ := List.mem_map.mp m
  have m1 := h x (List.of_mem_zip mz).1
  have m2 : y < 6 := by
    rcases List.mem_append.mp (List.of_mem_zip mz).2 with m | m
    · exact h y (List.mem_of_mem_tail m)
    · exact h y (List.mem_of_mem_take m)
  show 6 * x + y < 36
  omega
theorem bumps_nd : ∀ (ks : List Nat) (t : List (Nat × Nat)), (t.map (·.1)).Nodup → ((ks.foldl bumpN t).map (·.1)).Nodup
  | [], _, h => h
  | k :: ks, t, h => bumps_nd ks _ (bump_nd t h).1
theorem addT_ok {T : Nat → List Nat} {a : Nat} {ls : List (List Nat)} {t : Tot} {p : List Nat} (h : TotOk t) (hp : ∀ x ∈ p, x < 6) : TotOk (addT T a ls t p) := by
  have h1 := (tab_adds (sgnF_ok 0) (pairsN p) t.tab (pairs_lt hp) h.k).2
  have h2 := bumps_nd (pairsN p) t.tab h.nd
  constructor
  · show ∀ q ∈ (if (T (p.getD 5 0)).contains a then (pairsN p).foldl bumpN t.tab else t.tab), q.1 < 36
    split
    · exact h1
    · exact h.k
  · show ((if (T (p.getD 5 0)).contains a then (pairsN p).foldl bumpN t.tab else t.tab).map (·.1)).Nodup
    split
    · exact h2
    · exact h.nd
theorem idx_first {ls : List (List Nat)} {p : List Nat} (h : p ∈ ls) : ls[ls.idxOf p]? = some p ∧ ∀ m, m < ls.idxOf p → ls[m]? ≠ some p := by
  have hlt := List.idxOf_lt_length_iff.mpr h
  refine ⟨by rw [List.getElem?_eq_getElem hlt, List.getElem_idxOf], fun m hm e => ?_⟩
  obtain ⟨h1, h2⟩ := List.getElem?_eq_some_iff.mp e
  have := List.not_of_lt_findIdx (show m < ls.findIdx (· == p) from hm)
  rw [h2] at this
  rw [BEq.rfl] at this
  cases this
end Mine
end
section
open PySem PySem.W PyProof.Rows
namespace Mine
theorem nodup_by {α β γ : Type} {f : α → β} {g : α → γ} {l : List α} (hg : (l.map g).Nodup) (h : ∀ x ∈ l, ∀ y ∈ l, f x = f y → g x = g y) : (l.map f).Nodup :=
  List.pairwise_map.mpr ((List.pairwise_map.mp hg).imp_of_mem fun mx my n e => n (h _ mx _ my e))
noncomputable def ringP (a : Nat) (p : List Nat) : List (Nat × Nat) := p.zip (p.tail ++ [a])
noncomputable def oneL (s : Nat → Nat) (c : Bool) (a : Nat) (p : List Nat) : List (Str × Int) := ((ringP a p).filter fun u0 => c).map fun q => (mkS [s q.1, s q.2], 1)
theorem ring_six {a : Nat} {p : List Nat} (h : LnA a p) (ha : a < 6) : ∀ q ∈ ringP a p, q.1 < 6 ∧ q.2 < 6 := fun q m => ⟨h.m _ (List.of_mem_zip m).1, (List.mem_append.mp (List.of_mem_zip m).2).elim (fun m => h.m _ (List.mem_of_mem_tail m)) fun m => List.mem_singleton.mp m ▸ ha⟩
theorem one_keys {s : Nat → Nat} (hs : SgOk s) (c : Bool) {a : Nat} {p : List Nat} (h : LnA a p) (ha : a < 6) : (((ringP a p).filter fun u0 => c).map fun q => mkS [s q.1, s q.2]).Nodup := by
  have hf : (ringP a p).map (·.1) = p := List.map_fst_zip (by rw [List.length_append, List.length_tail, h.l]; exact Nat.le_refl 6)
  have hn : (((ringP a p).filter fun u0 => c).map (·.1)).Nodup := List.Nodup.sublist (List.Sublist.map _ List.filter_sublist) (hf.symm ▸ h.nd)
  exact nodup_by hn fun x mx y my e => hs _ (ring_six h ha x (List.mem_filter.mp mx).1).1 _ (ring_six h ha y (List.mem_filter.mp my).1).1 (List.cons.inj (mkS_inj.mp e)).1
theorem one_add {s : Nat → Nat} (hs : SgOk s) {T : Nat → List Nat} {a : Nat} {ls : List (List Nat)} {t : Tot} {p : List Nat} (ht : TotOk t) (h : LnA a p) (ha : a < 6) : addC (tabT s t.tab) (oneL s ((T (p.getD 5 0)).contains a) a p) = tabT s (addT T a ls t p).tab := by
  show _ = tabT s (if (T (p.getD 5 0)).contains a then (pairsN p).foldl bumpN t.tab else t.tab)
  unfold oneL
  cases (T (p.getD 5 0)).contains a with
  | false => rw [List.filter_eq_nil_iff.mpr fun u0 u0 => Bool.false_ne_true]; rfl
  | true =>
    rw [List.filter_eq_self.mpr fun u0 u0 => rfl, if_pos rfl, ← (tab_adds hs (pairsN p) t.tab (pairs_lt h.m) ht.k).1]
    congr 1
    unfold pairsN ringP
    rw [h.hd, List.map_map]
    refine List.map_congr_left fun q m => ?_
    have := ring_six h ha q m
    show _ = (keyS s (6 * q.1 + q.2), (1 : Int))
    unfold keyS
    rw [show (6 * q.1 + q.2) / 6 = q.1 by omega, show (6 * q.1 + q.2) % 6 = q.2 by omega]
theorem zip_ring (s : Nat → Nat) (a : Nat) (p : List Nat) : zipD (p.map s) (p.tail.map s ++ [s a]) = (ringP a p).map fun q => .tup [.str (mkS [s q.1]), .str (mkS [s q.2])] := by
  unfold zipD ringP
  rw [show p.tail.map s ++ [s a] = (p.tail ++ [a]).map s by rw [List.map_append]; rfl, List.zip_map, List.map_map]; rfl
end Mine
end
section
open PySem PySem.W PyProof.Rows
namespace Mine
theorem len_le {l : List Nat} : ∀ {k : List Nat}, l.Nodup → (∀ x ∈ l, x ∈ k) → l.length ≤ k.length := by
  induction l with
  | nil => intros; simp
  | cons a l ih =>
    intro k hn hs
    have ⟨h1, h2⟩ := List.nodup_cons.mp hn
    have ha := hs a (.head _)
    have := ih (k := k.erase a) h2 fun x hx => by
      have hne : x ≠ a := fun e => h1 (e ▸ hx)
      exact (List.mem_erase_of_ne hne).mpr (hs x (.tail _ hx))
    rw [List.length_erase_of_mem ha] at this
    have := List.length_pos_of_mem ha
    simp only [List.length_cons]
    omega
theorem tab_len {t : Tot} (h : TotOk t) : t.tab.length ≤ 36 := by
  have := len_le (k := List.range 36) h.nd fun x m => by obtain ⟨p, mp, rfl⟩ := List.mem_map.mp m; exact List.mem_range.mpr (h.k p mp)
  rwa [List.length_map, List.length_range] at this
theorem tab_nd {s : Nat → Nat} (hs : SgOk s) {t : Tot} (h : TotOk t) : ((tabT s t.tab).map (·.1)).Nodup := by
  unfold tabT
  rw [List.map_map]
  exact nodup_by h.nd fun x mx y my e => keyS_inj hs (h.k x mx) (h.k y my) e
noncomputable def wbB : List Stmt := bodyOf ((forB ((pT 16).body.getD 27 (.Pass default))).getD 0 (.Pass default))
noncomputable def wbL : List Stmt := forB (wbB.getD 1 (.Pass default))
section
variable {C : Cx} {A : Around} {env : Env} {X : Lw} {σ : St} {t : Int × Int} {m a sn : Nat} {ls : List (List Nat)} {tt : Tot} {p : List Nat} {st wb : D}
noncomputable def Lw.w (X : Lw) (t : Int × Int) (a m : Nat) (ls : List (List Nat)) (sn : Nat) (tt : Tot) (l : List (Option D)) : Rho := X.g t a m ([some (.lst (lnD (sgnF X.v) ls)), none, some (.loc sn), some (totD (sgnF X.v) tt)] ++ l)
theorem wb_line (Q : Pr C) (H : XOk X) (ha : a < 6) (hz : ls.length ≤ 7776) (h6 : ∀ q ∈ ls, ∀ x ∈ q, x < 6) (hp : LnA a p) (hm : p ∈ ls) (ht : TotOk tt) :
    TS (.fn C A 8 fd16 env) ((X.w t a m ls sn tt [some st, some wb]).set 36 (some (.str (lnX (sgnF X.v) p)))) (execs wbL env) σ .next (X.w t a m ls sn (addT X.T a ls tt p) [some st, some wb]) (σ ++ [.dead]) := by
  have hS := sgnF_ok X.v
  obtain ⟨i1, i2⟩ := idx_first hm
  have hj : (ls.map (lnX (sgnF X.v)))[ls.idxOf p]? = some (lnX (sgnF X.v) p) := by rw [List.getElem?_map, i1]; rfl
  have hno : ∀ k, k < ls.idxOf p → (ls.map (lnX (sgnF X.v)))[k]? ≠ some (lnX (sgnF X.v) p) := fun k hk e => by
    rw [List.getElem?_map] at e
    obtain ⟨q, eq, e2⟩ := Option.map_eq_some_iff.mp e
    exact i2 k hk (lnS_inj hS (h6 q (List.mem_of_getElem? eq)) hp.m e2 ▸ eq)
  have hil : ls.idxOf p < ls.length := List.idxOf_lt_length_iff.mpr hm
  have h5 : p.getD 5 0 < 6 := by
    rw [List.getD_eq_getElem?_getD, List.getElem?_eq_getElem (hp.l ▸ (by decide : 5 < 6))]; exact hp.m _ (List.getElem_mem _)
  have get5 : (lnX (sgnF X.v) p).cps[5]? = some (sgnF X.v (p.getD 5 0)) := by
    show (p.map (sgnF X.v)).toArray[5]? = _
    rw [List.getElem?_toArray, List.getElem?_map, List.getD_eq_getElem?_getD, List.getElem?_eq_getElem (hp.l ▸ (by decide : 5 < 6))]; rfl
  generalize hc : (X.T (p.getD 5 0)).contains a = c
  have hcal : (kget (intD (calL (sgnF X.v) (X.T (p.getD 5 0)))) (mkS [sgnF X.v a])).isSome = c := (cal_has hS (H.T.lt _ h5) ha).trans hc
  have hone := one_add hS (T := X.T) (ls := ls) ht hp ha
  rw [hc] at hone
  have htl := tab_len ht
  have hol : (oneL (sgnF X.v) c a p).length ≤ 6 := by
    unfold oneL ringP
    rw [List.length_map]
    exact Nat.le_trans (List.length_filter_le _ _) (by rw [List.length_zip, hp.l]; exact Nat.min_le_left _ _)
  have hst := stats_fn (σ := σ) Q.G Q.F2 Q.F3 ((tt.rounds : Int), (tt.count : Int), (tt.sum : Int), (tt.sq : Int)) ((if c = true then 1 else 0), 1, (ls.idxOf p : Int), (ls.idxOf p : Int) * (ls.idxOf p : Int)) (tabT (sgnF X.v) tt.tab) (oneL (sgnF X.v) c a p) (tab_nd hS ht) (by unfold tabT; rw [List.length_map]; omega)
  rw [hone] at hst
  obtain ⟨b, r, ep⟩ : ∃ b r, p = b :: r := by
    have := hp.l
    match p, this with
    | b :: r, _ => exact ⟨b, r, rfl⟩
  have htail : slS (lnX (sgnF X.v) p) (some 1) none none = mkS (p.tail.map (sgnF X.v)) := by
    have h6 := hp.l
    rw [ep] at h6 ⊢
    exact sl_tail (a := sgnF X.v b) (p := r.map (sgnF X.v)) (by rw [List.length_cons, List.length_map]; exact h6)
  have hlt : p.tail.length = 5 := by rw [List.length_tail, hp.l]
  have hring : (ringP a p).length ≤ 16777216 := by unfold ringP; rw [List.length_zip, hp.l]; exact Nat.le_trans (Nat.min_le_left _ _) (by decide)
  refine TS_cons (TS_asgT0 (d := .tup [.int (ls.idxOf p : Nat), .bool c]) (TE_tuple (a2 (TE_lindex (ss := ls.map (lnX (sgnF X.v))) hj hno (by omega) (.z _) (.z _) (tv 30 rfl) (a1 (tv 36 rfl))) (TE.val (TE_cmp (tv 25 rfl) (TE_idx (TE_idx (tv 19 rfl) (TE_idx (tv 36 rfl) TE_int (idx_str (j := 5) get5 (by decide))) (idx_ds (.z _) (bk_at hS X.T h5))) TE_int (idx_tup (j := 4) rfl (by decide))) (cmp_ind (.z _)) rfl) (congrArg D.bool hcal))) (Nat.le_of_ble_eq_true rfl)) (.t (.cons (i := 8) rfl rfl (.cons (i := 37) rfl rfl (.nil _))))) ?_
  refine TS_cons (TS_asg (i := 33) (d := totD (sgnF X.v) (addT X.T a ls tt p)) (TE.val (call Q.F2 hst (a2 (tv 33 rfl) (TE_tuple (ac (TE_bi Q.G.int (by kernel_rfl) rfl rfl (a1 (tv 37 rfl)) fun q r => bi_int q.I r) (ac TE_int (ac (tv 8 rfl) (ac (TE_bin (tv 8 rfl) (tv 8 rfl) (bin_mul (.inl (by omega)))) (a1 (d := .ds (intD (oneL (sgnF X.v) c a p))) (TE.val (TP.rest made_D (TP_df [14, 23] (fun q : Nat × Nat => .tup [.str (mkS [sgnF X.v q.1]), .str (mkS [sgnF X.v q.2])]) (fun u0 => .int 1) (fun q => mkS [sgnF X.v q.1, sgnF X.v q.2]) (fun u0 => c) (ringP a p)
    (TI_zip Q.G.zip (by kernel_rfl) (a := p.map (sgnF X.v)) (c := p.tail.map (sgnF X.v) ++ [sgnF X.v a]) (by rw [List.length_map, List.length_append, List.length_map, hlt, hp.l]; rfl) (a2 (tv 36 rfl) (TE_bin (TE.val (TE_sl (tv 36 rfl) (TE_part_some TE_int) TE_part_none TE_part_none (.int _) .none .none (sl_str rfl (by rw [htail, mkS_len, List.length_map, hlt]; decide))) (congrArg D.str htail)) (tv 25 rfl) (bin_cat (by rw [List.length_map, hlt]; exact Nat.le_of_ble_eq_true rfl))))) (zip_ring (sgnF X.v) a p) hring (one_keys hS c hp ha)
    fun cenv q mq => ⟨.t (.cons (i := 14) rfl rfl (.cons (i := 23) rfl rfl (.nil _))), (Le.set rfl).trans (.set rfl), TT_one (TB_value (tv 37 rfl) truth_bool), fun u0 => ⟨TE_bin (tv 14 rfl) (tv 23 rfl) (bin_cat (Nat.le_of_ble_eq_true rfl)), TE_int⟩⟩)) (congrArg D.ds (by unfold intD mapD oneL; rw [List.map_map]; rfl)))))))) (Nat.le_of_ble_eq_true rfl)))) ?_) rfl rfl rfl) (TS_nilf [8, 36, 37])
  unfold totD
  refine congrArg (fun f => statD f (tabT (sgnF X.v) (addT X.T a ls tt p).tab)) ?_
  unfold addT
  dsimp only
  rw [hc]
  refine Prod.ext_iff.mpr ⟨?_, Prod.ext_iff.mpr ⟨?_, Prod.ext_iff.mpr ⟨?_, ?_⟩⟩⟩
  · cases c
    · show (0 : Int) + (tt.rounds : Int) = ((tt.rounds + 0 : Nat) : Int); omega
    · show (1 : Int) + (tt.rounds : Int) = ((tt.rounds + 1 : Nat) : Int); omega
  · show (1 : Int) + (tt.count : Int) = ((tt.count + 1 : Nat) : Int); omega
  · show (ls.idxOf p : Int) + (tt.sum : Int) = ((tt.sum + ls.idxOf p : Nat) : Int); omega
  · show (ls.idxOf p : Int) * (ls.idxOf p : Int) + (tt.sq : Int) = ((tt.sq + ls.idxOf p * ls.idxOf p : Nat) : Int)
    rw [Int.natCast_add, Int.natCast_mul]; exact Int.add_comm _ _
end
end Mine
end
section
open PySem PySem.W PyProof.Rows
namespace Mine
noncomputable def wbS : List Stmt := forB ((pT 16).body.getD 27 (.Pass default))
theorem totsOk {T : Nat → List Nat} {a : Nat} {ls : List (List Nat)} : ∀ (W : List (List Nat)) {t : Tot}, TotOk t → (∀ p ∈ W, ∀ x ∈ p, x < 6) → TotOk (W.foldl (addT T a ls) t)
  | [], _, h, _ => h
  | p :: W, _, h, h6 => totsOk W (addT_ok h (h6 p (.head _))) fun q m => h6 q (.tail _ m)
theorem str_list {σ : St} {s : Nat → Nat} {W : List (List Nat)} : Rd σ (.lst (lnD s W)) (.list (W.map fun p => .str (lnX s p))) := rd_lst (.z _) (by unfold lnD; rw [List.map_map]; exact rdL_map fun p m => rd_str)
section
variable {C : Cx} {A : Around} {env : Env} {X : Lw} {x : Lx} {σ : St} {t : Int × Int} {m a sn ln : Nat} {cs : List Nat} {ls W S : List (List Nat)} {tt : Tot} {p : List Nat}
structure WbI (X : Lw) (a : Nat) (ls : List (List Nat)) : Prop where
  h : a < 6
  z : ls.length ≤ 7776
  l : ∀ q ∈ ls, LnA a q
theorem wb_sum (Q : Pr C) (H : XOk X) (I : WbI X a ls) (hW : ∀ q ∈ W, q ∈ ls) (ht : TotOk tt) {st : D} :
    TS (.fn C A 8 fd16 env) (X.w t a m ls sn tt [some st, some (.lst (lnD (sgnF X.v) W))]) (exec (wbB.getD 1 (.Pass default)) env) σ .next (X.w t a m ls sn (W.foldl (addT X.T a ls) tt) [some st, some (.lst (lnD (sgnF X.v) W))]) (σ ++ List.replicate W.length .dead) := by
  refine TS_for (TI_of (tv 35 rfl) iter_lst) (Run.start (σ := σ ++ List.replicate ([] : List (List Nat)).length .dead) (List.append_nil _) (Run.scan0 (e := fun p => .str (lnX (sgnF X.v) p)) (R := fun l => X.w t a m ls sn (l.foldl (addT X.T a ls) tt) [some st, some (.lst (lnD (sgnF X.v) W))]) (S := fun l => σ ++ List.replicate l.length .dead) W (by unfold lnD; rw [List.map_map]; rfl) fun done p todo e => ?_))
  have hm : ∀ q ∈ done ++ p :: todo, q ∈ ls := fun q mq => hW q (e ▸ mq)
  have hp := hm p (List.mem_append_right _ (.head _))
  have h6 : ∀ q ∈ ls, ∀ x ∈ q, x < 6 := fun q mq => (I.l q mq).m
  rw [List.foldl_append, List.length_append]
  exact ⟨_, _, .v (i := 36) rfl rfl, .inl rfl, TS.st (wb_line Q H I.h I.z h6 (I.l p hp) hp (totsOk done ht fun q mq => h6 q (hm q (List.mem_append_left _ mq)))) (by rw [List.append_assoc, ← List.replicate_succ']; rfl)⟩
end
end Mine
end
section
open PySem PySem.W PyProof.Rows
namespace Mine
theorem ln_ok {v : Nat} {p : List Nat} (h : ∀ x ∈ p, x < 6) : PyData.strOk (lnX (sgnF v) p) = true := by
  unfold PyData.strOk lnX mkS
  rw [List.all_toArray, List.all_eq_true]
  intro c m
  obtain ⟨i, mi, rfl⟩ := List.mem_map.mp m
  exact decide_eq_true (Nat.lt_trans (sg_small v (h i mi)) (by decide))
theorem cmp_nilE {v : Nat} {W : List (List Nat)} {σ : St} (h6 : ∀ q ∈ W, ∀ x ∈ q, x < 6) (hne : W ≠ []) : CmpOk σ .Eq (.lst (lnD (sgnF v) W)) (.lst []) false := by
  have h := cmp_eqd (σ := σ) (a := .lst (lnD (sgnF v) W)) (b := .lst []) str_list (rd_lst (.z _) rdL_nil) ((Pl.list (n := 0) (.map fun p m => .str (ln_ok (h6 p m)))).shaped (by decide)) (by decide)
  have e : PyData.eqv (.list (W.map fun p => .str (lnX (sgnF v) p))) (.list []) = false := by
    cases W with
    | nil => exact absurd rfl hne
    | cons q W => simp only [List.map_cons, PyData.eqv, PyData.eqvAll]
  rwa [e] at h
section
variable {C : Cx} {A : Around} {env : Env} {X : Lw} {x : Lx} {σ : St} {t : Int × Int} {m a sn ln : Nat} {cs : List Nat} {ls W S : List (List Nat)} {tt : Tot} {p : List Nat}
theorem wb_old (hs : σ[sn]? = some (.lst (lnD (sgnF X.v) S))) (h6 : ∀ q ∈ S, ∀ x ∈ q, x < 6) (hp6 : ∀ x ∈ p, x < 6) (hp : p ∈ S) :
    TS (.fn C A 8 fd16 env) ((X.w t a m ls sn tt []).set 34 (some (.str (lnX (sgnF X.v) p)))) (execs wbS env) σ .next (X.w t a m ls sn tt []) σ :=
  TS_cons (TS_if_f (TB.to (TB_cmp (tv 34 rfl) (tv 32 rfl) (cmp_ninl (.o hs)) rfl) (by rw [any_map_inj fun y my e => lnS_inj (sgnF_ok X.v) (h6 y my) hp6 e, List.contains_iff_mem.mpr hp]; rfl)) TS_nil) (TS_nilf [34])
theorem wb_new (Q : Pr C) (H : XOk X) (I : WbI X a ls) (hx : x.ct = Q.lx) (hL : X.L = x.L) (P : TnP x ln cs σ (sgnF X.v) X.T) (hsn : sn < σ.length) (hs : σ[sn]? = some (.lst (lnD (sgnF X.v) S))) (hS : ∀ q ∈ S, q ∈ ls) (hz : S.length + W.length ≤ 1000000) (hp : p ∈ ls) (hn : p ∉ S) (hw : webGo X.T 100 [p] 0 = some W) (hne : W ≠ []) (hW : ∀ q ∈ W, q ∈ ls) (ht : TotOk tt) (hr : (W.foldl (addT X.T a ls) tt).rounds % 2 = 0) :
    TS (.fn C A 8 fd16 env) ((X.w t a m ls sn tt []).set 34 (some (.str (lnX (sgnF X.v) p)))) (execs wbS env) σ .next (X.w t a m ls sn (W.foldl (addT X.T a ls) tt) []) ((σ ++ [AO.dead] ++ List.replicate W.length AO.dead).set sn (AO.lst (lnD (sgnF X.v) (S ++ W)))) := by
  have h6 : ∀ q ∈ ls, ∀ x ∈ q, x < 6 := fun q mq => (I.l q mq).m
  have hd : lnD (sgnF X.v) (S ++ W) = lnD (sgnF X.v) S ++ lnD (sgnF X.v) W := by unfold lnD; rw [List.map_append, List.map_append]
  rw [hd]
  refine TS_cons (TS_if_t (TB.to (TB_cmp (tv 34 rfl) (tv 32 rfl) (cmp_ninl (.o hs)) rfl) (by rw [any_map_inj fun y my e => lnS_inj (sgnF_ok X.v) (h6 y (hS y my)) (h6 p hp) e, List.contains_eq_mem, decide_eq_false hn]; rfl))
    (TS_cons (TS_asg (i := 35) (d := .lst (lnD (sgnF X.v) W)) (call Q.F15 (turned_fn Q hx P (I.l p hp).toLn hw) (ac (TE.val (tv 17 rfl) (congrArg D.loc hL)) (a2 (tv 19 rfl) (tv 34 rfl)))) rfl rfl rfl)
    (TS_cons (wb_sum Q H I hW ht)
    (TS_cons (TS_if_f (TB.to (TB_boolop (TB_or (TB_cmp (tv 35 rfl) (TE_list an (Nat.zero_le _)) (cmp_nilE (fun q mq => h6 q (hW q mq)) hne) rfl) (TB_or (TB_cmp (TE_bin (TE_idx (tv 33 rfl) TE_int idx_t0) TE_int (bin_fmod (by decide))) TE_int cmp_eqi rfl) TB_or_nil))) ?_) TS_nil)
    (TS_cons (TS_augl (i := 32) (by kernel_rfl) rfl (tv 35 rfl) (at_apps (at_app hs)) (by rw [lnD_len, lnD_len]; exact hz) rfl) TS_nil))))) (TS_nilf [34, 35])
  rw [show (2 : Int) = ((2 : Nat) : Int) from rfl, fmod_nat, hr]; rfl
end
end Mine
end
section
open PySem PySem.W PyProof.Rows
namespace Mine
inductive RunP (T : Nat → List Nat) (a : Nat) (ls : List (List Nat)) : List (List Nat) → List (List Nat) → Tot → Tot → Prop
  | nil {S : List (List Nat)} {t : Tot} : RunP T a ls [] S t t
  | old {p : List Nat} {r S : List (List Nat)} {t t' : Tot} (h : p ∈ S) (n : RunP T a ls r S t t') : RunP T a ls (p :: r) S t t'
  | new {p : List Nat} {r S W : List (List Nat)} {t t' : Tot} (h : p ∉ S) (w : webGo T 100 [p] 0 = some W) (ne : W ≠ []) (hW : ∀ q ∈ W, q ∈ ls) (hz : S.length + W.length ≤ 1000000) (e : (W.foldl (addT T a ls) t).rounds % 2 = 0) (n : RunP T a ls r (S ++ W) (W.foldl (addT T a ls) t) t') : RunP T a ls (p :: r) S t t'
inductive WbO (C : Cx) (X : Lw) (x : Lx) (ln : Nat) (cs : List Nat) (t : Int × Int) (a m sn : Nat) (ls r : List (List Nat)) (tt tt' : Tot) (σ : St) : Prop
  | mk (σ' : St) (go : ∀ {A env p}, Run (.fn C A 8 fd16 env) Nl (.Name "start" p) wbS [] r.length (lnD (sgnF X.v) r) (X.w t a m ls sn tt []) σ .next (X.w t a m ls sn tt' []) σ') (L : LX x ln cs [] σ') (F : Fm [sn] σ σ') (k : TotOk tt') : WbO C X x ln cs t a m sn ls r tt tt' σ
theorem wb_all {C : Cx} {X : Lw} {x : Lx} {ln : Nat} {cs : List Nat} {t : Int × Int} {a m sn : Nat} {ls : List (List Nat)} (Q : Pr C) (H : XOk X) (I : WbI X a ls) (hx : x.ct = Q.lx) (hL : X.L = x.L) (hnd : x.Nd) (hsn : sn ∉ x.cells) {r S : List (List Nat)} {tt tt' : Tot} (R : RunP X.T a ls r S tt tt') :
    ∀ {σ : St}, LX x ln cs [] σ → σ[sn]? = some (.lst (lnD (sgnF X.v) S)) → (∀ q ∈ S, q ∈ ls) → (∀ q ∈ r, q ∈ ls) → TotOk tt → WbO C X x ln cs t a m sn ls r tt tt' σ := by
  have h6 : ∀ q ∈ ls, ∀ x ∈ q, x < 6 := fun q mq => (I.l q mq).m
  induction R with
  | nil => exact fun L hs hS hr k => ⟨_, .done (.none _) TS_nil, L, Fm.refl _ _, k⟩
  | old h n ih =>
    intro σ L hs hS hr k
    obtain ⟨σ', go, L', F, k'⟩ := ih L hs hS (fun q mq => hr q (.tail _ mq)) k
    exact ⟨σ', .next (.some _ _ _) (.v (i := 34) rfl rfl) (wb_old hs (fun q mq => h6 q (hS q mq)) (h6 _ (hr _ (.head _))) h) go, L', F, k'⟩
  | new h w ne hW hz e n ih =>
    rename_i p r S W tt tt'
    intro σ L hs hS hr k
    have hsl := at_lt hs
    have F1 : Fm [sn] σ ((σ ++ [AO.dead] ++ List.replicate W.length AO.dead).set sn (AO.lst (lnD (sgnF X.v) (S ++ W)))) := ((Fm.app _ _ _).trans (Fm.app _ _ _)).trans (Fm.set _ _ (.inl (.head _)))
    have hs1 : ((σ ++ [AO.dead] ++ List.replicate W.length AO.dead).set sn (AO.lst (lnD (sgnF X.v) (S ++ W))))[sn]? = some (.lst (lnD (sgnF X.v) (S ++ W))) := List.getElem?_set_self (by simp only [List.length_append]; omega)
    obtain ⟨σ', go, L', F, k'⟩ := ih (L.frame F1 fun n mn q => hsn (List.mem_singleton.mp q ▸ mn)) hs1 (fun q mq => (List.mem_append.mp mq).elim (hS q) (hW q)) (fun q mq => hr q (.tail _ mq)) (totsOk W k fun q mq => h6 q (hW q mq))
    exact ⟨σ', .next (.some _ _ _) (.v (i := 34) rfl rfl) (wb_new Q H I hx hL ⟨L, hnd, sgnF_ok X.v, H.T.lt⟩ hsl hs hS hz (hr _ (.head _)) h w ne hW k e) go, L', F1.trans F, k'⟩
end Mine
end
section
open PySem PySem.W PyProof.Rows
namespace Mine
section
variable {C : Cx} {X : Lw} {x : Lx} {ln : Nat} {cs : List Nat} {σ : St} {t : Int × Int} {m a sn : Nat} {ls : List (List Nat)} {tt' : Tot} {P : Addr}
theorem lw_27 (Q : Pr C) (H : XOk X) (I : WbI X a ls) (hx : x.ct = Q.lx) (hL : X.L = x.L) (hnd : x.Nd) (hsn : sn ∉ x.cells) (R : RunP X.T a ls ls [] ⟨0, 0, 0, 0, []⟩ tt') (L : LX x ln cs [] σ) (hs : σ[sn]? = some (.lst []))
    (k : ∀ σ', LX x ln cs [] σ' → Fm [sn] σ σ' → TotOk tt' → EN C P (X.w t a m ls sn tt' []) 28 σ') : EN C P (X.w t a m ls sn ⟨0, 0, 0, 0, []⟩ []) 27 σ := by
  obtain ⟨σ', go, L', F, k'⟩ := wb_all (t := t) (m := m) Q H I hx hL hnd hsn R L hs (fun u0 h => nomatch h) (fun u0 h => h) ⟨(fun u0 h => nomatch h), List.Pairwise.nil⟩
  exact (k σ' L' F k').from fun u => TR_cons (TS_for (TI_of (tv 30 rfl) iter_lst) go) u
end
structure GrA (a k : Nat) (L : List (List Nat)) : Prop where
  nd : ∀ p ∈ L, p.Nodup
  hd : ∀ p ∈ L, p.take 1 = [a]
theorem grA_ok {T : Nat → List Nat} {a k : Nat} {L : List (List Nat)} (h : GrA a k L) : GrA a (k + 1) (growL T L) := by
  have key : ∀ q ∈ growL T L, ∃ p ∈ L, ∃ j, j ∉ p ∧ q = p ++ [j] := fun q m => by
    obtain ⟨p, mp, m⟩ := List.mem_flatMap.mp m
    obtain ⟨j, mj, rfl⟩ := List.mem_map.mp m
    exact ⟨p, mp, j, fun mm => (by have := (List.mem_filter.mp mj).2; rw [List.contains_iff_mem.mpr mm] at this; cases this), rfl⟩
  refine ⟨fun q m => ?_, fun q m => ?_⟩
  · obtain ⟨p, mp, j, nj, rfl⟩ := key q m
    exact List.nodup_append.mpr ⟨h.nd p mp, List.nodup_cons.mpr ⟨List.not_mem_nil, .nil⟩, fun x mx y my e => nj (List.mem_singleton.mp my ▸ e ▸ mx)⟩
  · obtain ⟨p, mp, j, nj, rfl⟩ := key q m
    have := h.hd p mp
    cases p with
    | nil => cases this
    | cons b p => exact this
theorem growA_ok (T : Nat → List Nat) (a : Nat) : ∀ k, GrA a k (growK T a k)
  | 0 => ⟨fun p m => by cases List.mem_singleton.mp m; exact List.nodup_cons.mpr ⟨List.not_mem_nil, .nil⟩, fun p m => by cases List.mem_singleton.mp m; rfl⟩
  | k + 1 => grA_ok (growA_ok T a k)
theorem wbI_of {X : Lw} {a : Nat} (H : XOk X) (ha : a < 6) : WbI X a (growK X.T a 5) :=
  let g := growK_ok H.T ha 5
  let h := growA_ok X.T a 5
  ⟨ha, g.n, fun q m => ⟨⟨g.l q m, g.m q m⟩, h.nd q m, h.hd q m⟩⟩
end Mine
end
section
open PySem PySem.W PyProof.Rows
namespace Mine
theorem getItem_mid {prog : Program} {wd : World} {A : Around} {E : Value → Shared → Prop} {s : Shared} {t sl : Addr} {a b c d e : Value} {k k' : Tok} {Q : Value → Shared → Prop} (ht : IsTup s.heap t #[a, b, c, d, e]) (hs : s.heap.IsSliceOf sl (.int 1 k') (.int 4 k) .none)
    (h : Q (.ref s.heap.objs.size) { s with heap := s.heap.push { cls := .type "tuple", data := .seq #[b, c, d] } }) : wpAny (model prog wd) A (getItem (.ref t) (.ref sl)) Q E s := by
  obtain ⟨os, hos, hcs, hds⟩ := id hs
  unfold getItem
  try with_reducible refine wpAny_holding ?_
  first | refine wpAny_bind (wpAny_pure ?_) | skip
  refine wpAny_bind (wpAny_sequenceKey ht.typeIs (by decide) ?_)
  refine wpAny_bind (wpAny_callSpecial?_slot (name := Str.ofString "__getitem__") ht.typeIs slot_tuple_getitem
    (wpAny_call_entry slot_tuple_getitem ht.typeIs entry_tuple_getitem ?_ (args_tuple_getitem _ _)))
  show wpAny _ _ (Builtin.Tuple.tupleItemsOf (.ref t) >>= _) _ _ s
  refine wpAny_bind (tupleItemsOf_ ht ?_)
  refine wpAny_bind (wpAny_typeOf (show s.TypeIs (.ref sl) "slice" from ⟨os, hos, hcs⟩) ?_)
  rw [if_pos (by decide)]
  have ap : ∀ {A : Around} {E : Value → Shared → Prop} {P : Int × Int × Nat → Shared → Prop}, P (1, 1, 3) s → wpAny (model prog wd) A (Builtin.Slice.sliceApplied (.ref sl) (pure 5)) P E s := by
    intro A E P hP
    unfold Builtin.Slice.sliceApplied Builtin.Slice.sliceFields
    refine wpAny_bind (wpAny_bind (wpAny_field hos hds (x := .int 1 k') rfl (wpAny_bind (wpAny_field hos hds (x := .int 4 k) rfl (wpAny_bind (wpAny_field hos hds (x := .none) rfl (wpAny_pure ?_)))))))
    refine wpAny_bind (slicePart_none ?_)
    show wpAny _ _ (if ((1 : Int) == 0) = true then _ else _) _ _ s
    rw [if_neg (by decide)]
    exact wpAny_bind (slicePart_int (wpAny_bind (slicePart_int (wpAny_bind (wpAny_pure (wpAny_pure hP))))))
  refine wpAny_bind (ap ?_)
  first
    | exact wpAny_bind (m := Builtin.Tuple.tupleExact _) (wpAny_newObj_type (wpAny_pure ⟨_, rfl, wpAny_pure h⟩) (show 3 ≤ sizeLine by decide))
    | exact wpAny_bind (m := Builtin.Tuple.tupleExact _) (wpAny_newObj_type (wpAny_bind (wpAny_pure (wpAny_pure ⟨_, rfl, wpAny_pure h⟩))) (show 3 ≤ sizeLine by decide))
    | exact wpAny_bind (wpAny_bind (m := Builtin.Tuple.tupleExact _) (wpAny_newObj_type (wpAny_pure (wpAny_pure ⟨_, rfl, wpAny_pure h⟩)) (show 3 ≤ sizeLine by decide)))
    | exact wpAny_bind (wpAny_bind (m := Builtin.Tuple.tupleExact _) (wpAny_newObj_type (wpAny_pure ⟨_, rfl, wpAny_pure h⟩) (show 3 ≤ sizeLine by decide)))
theorem sl_mid {σ : St} {a b c d e : D} : SlOk σ (.tup [a, b, c, d, e]) (some 1) (some 4) none (.tup [b, c, d]) := fun u0 u0 u0 u0 u0 u0 u0 u0 sa I ro px py pz hs => by
  obtain ⟨p, u1, n, z, u2, u3, ra, u4, u5, rb, u6, u7, rc, u8, u9, rd, u10, u11, re, e'⟩ := ro
  cases e'
  cases px; cases py; cases pz
  exact ⟨_, _, F.slot_tuple_getitem.lookup, ⟨_, z.is, rfl⟩, getItem_mid ⟨_, z.is, rfl, n, rfl⟩ ⟨_, hs, rfl, rfl⟩ (out_tup I _ ⟨_, _, rb, _, _, rc, _, _, rd, rfl⟩)⟩
end Mine
end
section
open PySem PySem.W PyProof.Rows
namespace Mine
theorem pre_range : ∀ n : Nat, preSum (fun i : Nat => (0 : Int) + (i : Nat) * 1) n = (((List.range n).sum : Nat) : Int)
  | 0 => rfl
  | n + 1 => by
    rw [List.range_succ, List.sum_append]
    show preSum (fun i : Nat => (0 : Int) + (i : Nat) * 1) n + (0 + (n : Int) * 1) = (((List.range n).sum + (n + 0) : Nat) : Int)
    rw [pre_range n]; omega
section
variable {K : Ctx} {ρ : Rho} {σ σ' : St} {x y : Str} {p q pos cpos : Pos} {args : List Expr} {n : Nat}
theorem TE_sumRange (hs : Bi K.C x (.builtin "sum")) (hkx : K.fd.glob x = true) (hr : Bi K.C y (.type "range")) (hky : K.fd.glob y = true) (hl : TA K ρ args pos σ [.int (n : Int)] σ') (hz : n ≤ 1000000000) (hu : unstarred args = true := by rfl) (hu2 : unstarred [.Call (.Name y q) args [] pos] = true := by rfl) :
    TE K ρ (eval (.Call (.Name x p) [.Call (.Name y q) args [] pos] [] cpos) K.env) σ (.int (((List.range n).sum : Nat) : Int)) σ' := fun u0 u0 k =>
  wpAny_Call_Name_kw (builtin_ok k hkx hs (callWith_one rfl hu2 (wpAny_Call_Name_kw (builtin_ok k hky hr (callWith_go (first := []) rfl hu hl k fun vs w1 x1 p1 ⟨_, _, ⟨t, e⟩, e'⟩ => by
    subst e e'
    refine call_range_1 ?_
    have hh : K.A.in1.handled = none := p1.o.room.handled
    refine call_sum_walkG (wpAny_pyIter_range (a := 0) (b := n) (c := 1) (IsRange.new ..) (by have := small1 (n := n) (Int.le_refl 0) (by omega); rwa [Int.zero_add] at this) ?_)
    refine ⟨_, _, _, _, _, _, fun i : Nat => (0 : Int) + (i : Nat) * 1, rfl, Walks.range hh _ 0 1 n, ?_, fun b hb => ?_, fun u0 u0 h => h, fun h' tk t' hk => ?_⟩
    · show IsRangeIter _ _ _ _ _
      have hz := size1 (n := n) (a := 0)
      rw [Int.zero_add] at hz
      rw [hz]
      have e0 : ((0 : Nat) : Int) = 0 := rfl
      rw [e0, Int.sub_zero, Int.zero_mul, Int.add_zero]
      exact Heap.get?_push_size _ rfl
    · cases List.mem_singleton.mp hb
      exact Heap.lt_size (Heap.get?_push_size _ rfl)
    · refine Out.after x1 (out_grown p1.I (fun b o eb => ?_) ⟨t', by rw [pre_range]⟩)
      have e1 := Heap.get?_push_of_some { cls := .type "range", data := .fields #[.int 0 w1.s.toks, .int (n : Int) t, .int 1 (w1.s.toks + 1)] } eb
      exact hk b o (fun m => by cases List.mem_singleton.mp m; exact Nat.lt_irrefl _ (Heap.lt_size e1)) (Heap.get?_push_of_some _ e1))))))
end
end Mine
end
section
open PySem PySem.W PyProof.Rows
set_option maxRecDepth 1000000
namespace Mine
section
variable {α β : Type}
noncomputable def fR (f : α → β → β) (b : β) (l : List α) : β := @List.rec α (fun u0 => β) b (fun h u0 ih => f h ih) l
noncomputable def iteR (q : Bool) (a b : α) : α := @Bool.rec (fun u0 => α) b a q
end
noncomputable def memR (x : Nat) (l : List Nat) : Bool := @List.rec Nat (fun u0 => Bool) false (fun h u0 ih => iteR (Nat.beq h x) true ih) l
noncomputable def eqR (a : List Nat) : List Nat → Bool := @List.rec Nat (fun u0 => List Nat → Bool) (fun b => @List.rec Nat (fun u0 => Bool) true (fun u0 u0 u0 => false) b) (fun h u0 ih b => @List.rec Nat (fun u0 => Bool) false (fun h' t' u0 => iteR (Nat.beq h h') (ih t') false) b) a
noncomputable def memLR (x : List Nat) (l : List (List Nat)) : Bool := fR (fun h ih => iteR (eqR h x) true ih) false l
noncomputable def hdR (l : List Nat) : Nat := @List.rec Nat (fun u0 => Nat) 0 (fun h u0 u0 => h) l
noncomputable def growR (T : Nat → List Nat) (l : List (List Nat)) : List (List Nat) := fR (fun r acc => fR (fun j acc => iteR (memR j r) acc ((j :: r) :: acc)) acc (T (hdR r))) [] l
noncomputable def nthR (l : List (List Nat)) : Nat → List Nat := @List.rec (List Nat) (fun u0 => Nat → List Nat) (fun u0 => []) (fun h u0 ih n => @Nat.rec (fun u0 => List Nat) h (fun m u0 => ih m) n) l
noncomputable def appR (l : List (List Nat)) (x : List Nat) : List (List Nat) := fR (fun h ih => h :: ih) [x] l
noncomputable def revR {α : Type} (l : List α) : List α := @List.rec α (fun u0 => List α → List α) (fun a => a) (fun h u0 ih a => ih (h :: a)) l []
noncomputable def turnR {γ : Type} (q : Bool) (x : List Nat) (acc pend : List (List Nat)) (k : List (List Nat) → List (List Nat) → γ) : γ := iteR q (iteR (memLR x acc) (k acc pend) (k (x :: acc) (appR pend x))) (k acc pend)
noncomputable def stepR {γ : Type} (T : Nat → List Nat) (r : List Nat) (acc pend : List (List Nat)) (k : List (List Nat) → List (List Nat) → γ) (d : γ) : γ :=
  @List.rec Nat (fun u0 => γ) d (fun f r1 u0 => @List.rec Nat (fun u0 => γ) d (fun e r2 u0 => @List.rec Nat (fun u0 => γ) d (fun d' r3 u0 => @List.rec Nat (fun u0 => γ) d (fun c r4 u0 => @List.rec Nat (fun u0 => γ) d (fun b r5 u0 => @List.rec Nat (fun u0 => γ) d (fun a u0 u0 =>
    turnR (memR b (T f)) [c, d', e, f, b, a] acc pend fun acc pend => turnR (memR c (T f)) [d', e, f, c, b, a] acc pend fun acc pend => turnR (memR d' (T f)) [e, f, d', c, b, a] acc pend k) r5) r4) r3) r2) r1) r
noncomputable def webR (T : Nat → List Nat) (f : Nat) : List (List Nat) → List (List Nat) → List (List Nat) :=
  @Nat.rec (fun u0 => List (List Nat) → List (List Nat) → List (List Nat)) (fun u0 u0 => []) (fun u0 ih acc pend => @List.rec (List Nat) (fun u0 => List (List Nat)) (revR acc) (fun r rest u0 => stepR T r acc rest ih []) pend) f
noncomputable def linesR (T : Nat → List Nat) (a : Nat) : List (List Nat) := growR T (growR T (growR T (growR T (growR T [[a]]))))
noncomputable def lenR {α : Type} (l : List α) : Nat := fR (fun u0 n => Nat.succ n) 0 l
noncomputable def foldR {α β : Type} (f : β → α → β) (l : List α) : β → β := @List.rec α (fun u0 => β → β) (fun b => b) (fun h u0 ih b => ih (f b h)) l
noncomputable def idxR (x : List Nat) (l : List (List Nat)) : Nat := fR (fun h ih => iteR (eqR h x) 0 (Nat.succ ih)) 0 l
noncomputable def isCl (T : Nat → List Nat) (a : Nat) (r : List Nat) : Bool := memR a (T (hdR r))
noncomputable def powR (x y : Nat) : Nat := Nat.pow 65536 (Nat.add (Nat.mul 6 x) y)
noncomputable def tieN (r : List Nat) (v : Nat) : Nat :=
  @List.rec Nat (fun u0 => Nat) v (fun f r1 u0 => @List.rec Nat (fun u0 => Nat) v (fun e r2 u0 => @List.rec Nat (fun u0 => Nat) v (fun d r3 u0 => @List.rec Nat (fun u0 => Nat) v (fun c r4 u0 => @List.rec Nat (fun u0 => Nat) v (fun b r5 u0 => @List.rec Nat (fun u0 => Nat) v (fun a u0 u0 =>
    Nat.add (Nat.add (Nat.add (Nat.add (Nat.add (Nat.add v (powR a b)) (powR b c)) (powR c d)) (powR d e)) (powR e f)) (powR f a)) r5) r4) r3) r2) r1) r
noncomputable def runR (T : Nat → List Nat) (a : Nat) (ls : List (List Nat)) (k : List (List Nat) → Nat → Nat → Nat → Nat → Bool) : List (List Nat) → List (List Nat) → Nat → Nat → Nat → Nat → Bool :=
  fR (fun r (ih : List (List Nat) → Nat → Nat → Nat → Nat → Bool) seen n s q t => iteR (memLR r seen) (ih seen n s q t) ((fun W => @List.rec (List Nat) (fun u0 => Bool) false (fun u0 u0 u0 => iteR (fR (fun r ih => iteR (memLR r ls) ih false) true W) ((fun n' => iteR (Nat.beq (Nat.mod n' 2) 1) false
    (ih (fR (fun h t => h :: t) W seen) n' (foldR (fun s r => Nat.add s (idxR r ls)) W s) (foldR (fun s r => (fun i => Nat.add s (Nat.mul i i)) (idxR r ls)) W q) (foldR (fun t r => iteR (isCl T a r) (tieN r t) t) W t))) (foldR (fun n r => iteR (isCl T a r) (Nat.succ n) n) W n)) false) W) (webR T 100 [r] [r]))) k
noncomputable def digR (v k : Nat) : Nat := Nat.mod (Nat.div v (Nat.pow 65536 k)) 65536
noncomputable def tabOkR (v : Nat) : Nat → Bool := @Nat.rec (fun u0 => Bool) true (fun k ih => iteR (Nat.beq (Nat.mod (digR v k) 2) 0) (iteR (Nat.beq (digR v k) (digR v (Nat.add (Nat.mul 6 (Nat.mod k 6)) (Nat.div k 6)))) ih false) false)
noncomputable def kC (m : Nat) : List (List Nat) → Nat → Nat → Nat → Nat → Bool := fun seen n s q t => iteR (Nat.beq (lenR seen) m) (iteR (Nat.beq (Nat.mul 2 s) (Nat.mul m (Nat.sub m 1))) (iteR (Nat.beq (Nat.mul 6 q) (Nat.mul (Nat.mul m (Nat.sub m 1)) (Nat.sub (Nat.mul 2 m) 1))) (tabOkR t 36) false) false) false
noncomputable def chkR (T : Nat → List Nat) (a : Nat) : Bool := (fun ls => runR T a ls (kC (lenR ls)) ls [] 0 0 0 0) (linesR T a)
noncomputable def rowC (A i : Nat) (js : List Nat) : List Nat → (List Nat → Bool) → Bool := @List.rec Nat (fun u0 => List Nat → (List Nat → Bool) → Bool) (fun acc k => k acc) (fun j u0 ih acc k => iteR (Nat.beq (Nat.land (Nat.shiftRight A (Nat.add (Nat.mul 6 i) j)) 1) 1) (ih (j :: acc) k) (ih acc k)) js
noncomputable def tabC (A : Nat) (k : (Nat → List Nat) → Bool) : Bool := rowC A 0 [5,4,3,2,1,0] [] fun t0 => rowC A 1 [5,4,3,2,1,0] [] fun t1 => rowC A 2 [5,4,3,2,1,0] [] fun t2 => rowC A 3 [5,4,3,2,1,0] [] fun t3 => rowC A 4 [5,4,3,2,1,0] [] fun t4 => rowC A 5 [5,4,3,2,1,0] [] fun t5 => k (nthR [t0, t1, t2, t3, t4, t5])
end Mine
end
section
open PySem PySem.W PyProof.Rows
set_option maxRecDepth 1000000
namespace Mine
noncomputable def chkG (A : Nat) : Bool := tabC A fun T => iteR (chkR T 0) (iteR (chkR T 1) (iteR (chkR T 2) (iteR (chkR T 3) (iteR (chkR T 4) (chkR T 5) false) false) false) false) false
noncomputable def chkGs (l : List Nat) : Bool := fR (fun A ih => iteR (chkG A) ih false) true l
noncomputable def gr0 : List Nat := [7635701304, 7635713918, 7705870206, 7706418302, 7706422584, 7706680884, 7706685298, 7739480702, 7739484984, 7740045694, 7740295794, 7740308276]
noncomputable def gr1 : List Nat := [7756258860, 7756263274, 7756811370, 7756823852, 7757086566, 11937857406, 11938405502, 11938409784, 11938668084, 11938672498, 12009389364, 12010176382]
noncomputable def gr2 : List Nat := [12042189182, 12042451764, 12043004274, 12043786878, 12043791160, 12058967340, 12059230054, 12059778150, 12060565036, 12060569450, 14085461630, 14085465912]
noncomputable def gr3 : List Nat := [14086026622, 14086276722, 14086289204, 14156182910, 14156445492, 14156998002, 14157780606, 14157784888, 14190060402, 14191407998, 14206575978, 14206834278]
noncomputable def gr4 : List Nat := [14207399270, 14208173674, 14208186156, 15159205404, 15159209818, 15159757914, 15159770396, 15160033110, 15229926684, 15230189398, 15230737494, 15231524380]
noncomputable def gr5 : List Nat := [15231528794, 15263541594, 15263799894, 15264364886, 15265139290, 15265151772, 15280315470, 15281930062, 20990181246, 21023791742, 21023796024, 21040569900]
noncomputable def gr6 : List Nat := [21040574314, 21094513022, 21094775604, 21111291180, 21111553894, 21144353580, 21144906090, 21145164390, 21194686334, 21195234430, 21195238712, 21195497012]
noncomputable def gr7 : List Nat := [21195501426, 23137785470, 23137789752, 23171412862, 23188178538, 23188191020, 23241569150, 23242384242, 23258347308, 23258899818, 23259158118, 23291962218]
noncomputable def gr8 : List Nat := [23292785510, 23342290558, 23342294840, 23342855550, 23343105650, 23343118132, 24211529244, 24211533658, 24245144154, 24245156636, 24261934926, 24315312924]
noncomputable def gr9 : List Nat := [24315865434, 24316123734, 24332091214, 24332639310, 24365701710, 24366266702, 24416034332, 24416038746, 24416586842, 24416599324, 24416862038, 27440493950]
noncomputable def gr10 : List Nat := [27440756532, 27473556350, 27474371442, 27490334508, 27490887018, 27491145318, 27545875326, 27561866598, 27562653484, 27594928998, 27596268394, 27644999038]
noncomputable def gr11 : List Nat := [27645261620, 27645814130, 27646596734, 27646601016, 28514237724, 28514500438, 28547300124, 28547852634, 28548110934, 28564078414, 28564626510, 28618832214]
noncomputable def gr12 : List Nat := [28619619100, 28636397390, 28668410190, 28670007886, 28718742812, 28719005526, 28719553622, 28720340508, 28720344922, 30661293852, 30661846362, 30662104662]
noncomputable def gr13 : List Nat := [30694908762, 30695732054, 30711682638, 30712247630, 30765888342, 30767227738, 30782403918, 30784001614, 30817629006, 30866351450, 30866609750, 30867174742]
noncomputable def gr14 : List Nat := [30867949146, 30867961628, 33882521470, 33883069566, 33883073848, 33883332148, 33883336562, 33916131966, 33916136248, 33916696958, 33916947058, 33916959540]
noncomputable def gr15 : List Nat := [33932910124, 33932914538, 33933462634, 33933475116, 33933737830, 33986853246, 33987115828, 33987668338, 33988450942, 33988455224, 34003631404, 34003894118]
noncomputable def gr16 : List Nat := [34004442214, 34005229100, 34005233514, 34037246314, 34037504614, 34038069606, 34038844010, 34038856492, 34087574654, 34087578936, 34087837236, 34087841650]
noncomputable def gr17 : List Nat := [34088389746, 34088402228, 34089176632]
theorem gk0 : chkGs gr0 = true := by decide +kernel
theorem gk1 : chkGs gr1 = true := by decide +kernel
theorem gk2 : chkGs gr2 = true := by decide +kernel
theorem gk3 : chkGs gr3 = true := by decide +kernel
theorem gk4 : chkGs gr4 = true := by decide +kernel
theorem gk5 : chkGs gr5 = true := by decide +kernel
theorem gk6 : chkGs gr6 = true := by decide +kernel
theorem gk7 : chkGs gr7 = true := by decide +kernel
theorem gk8 : chkGs gr8 = true := by decide +kernel
theorem gk9 : chkGs gr9 = true := by decide +kernel
theorem gk10 : chkGs gr10 = true := by decide +kernel
theorem gk11 : chkGs gr11 = true := by decide +kernel
theorem gk12 : chkGs gr12 = true := by decide +kernel
theorem gk13 : chkGs gr13 = true := by decide +kernel
theorem gk14 : chkGs gr14 = true := by decide +kernel
theorem gk15 : chkGs gr15 = true := by decide +kernel
theorem gk16 : chkGs gr16 = true := by decide +kernel
theorem gk17 : chkGs gr17 = true := by decide +kernel
noncomputable def grs : List (List Nat) := [gr0, gr1, gr2, gr3, gr4, gr5, gr6, gr7, gr8, gr9, gr10, gr11, gr12, gr13, gr14, gr15, gr16, gr17]
theorem chkGs_ok : ∀ {l : List Nat}, chkGs l = true → ∀ A ∈ l, chkG A = true
  | B :: l, h, A, m => by
    have h : iteR (chkG B) (chkGs l) false = true := h
    cases q : chkG B with
    | false => rw [q] at h; cases h
    | true =>
      rw [q] at h
      rcases List.mem_cons.mp m with rfl | m
      · exact q
      · exact chkGs_ok h A m
theorem all_cons {l : List Nat} {L : List (List Nat)} (h : chkGs l = true) (h' : ∀ l ∈ L, chkGs l = true) : ∀ m ∈ l :: L, chkGs m = true := List.forall_mem_cons.mpr ⟨h, h'⟩
theorem all_graphs : ∀ l ∈ grs, chkGs l = true := all_cons gk0 (all_cons gk1 (all_cons gk2 (all_cons gk3 (all_cons gk4 (all_cons gk5 (all_cons gk6 (all_cons gk7 (all_cons gk8 (all_cons gk9 (all_cons gk10 (all_cons gk11 (all_cons gk12 (all_cons gk13 (all_cons gk14 (all_cons gk15 (all_cons gk16 (all_cons gk17 (fun u0 m => nomatch m))))))))))))))))))
end Mine
end
section
open PySem PySem.W PyProof.Rows
set_option maxRecDepth 1000000
namespace Mine
noncomputable def insR (a : Nat) (i : Nat) : List Nat → List Nat := @Nat.rec (fun u0 => List Nat → List Nat) (fun l => a :: l) (fun u0 ih l => @List.rec Nat (fun u0 => List Nat) [a] (fun h t u0 => h :: ih t) l) i
noncomputable def ordR (n : Nat) : List Nat := insR 5 (Nat.mod (Nat.div n 120) 6) (insR 4 (Nat.mod (Nat.div n 24) 5) (insR 3 (Nat.mod (Nat.div n 6) 4) (insR 2 (Nat.mod (Nat.div n 2) 3) (insR 1 (Nat.mod n 2) [0]))))
noncomputable def sixR {γ : Type} (d : γ) (k : Nat → Nat → Nat → Nat → Nat → Nat → γ) (r : List Nat) : γ :=
  @List.rec Nat (fun u0 => γ) d (fun f r1 u0 => @List.rec Nat (fun u0 => γ) d (fun e r2 u0 => @List.rec Nat (fun u0 => γ) d (fun d' r3 u0 => @List.rec Nat (fun u0 => γ) d (fun c r4 u0 => @List.rec Nat (fun u0 => γ) d (fun b r5 u0 => @List.rec Nat (fun u0 => γ) d (fun a u0 u0 => k f e d' c b a) r5) r4) r3) r2) r1) r
noncomputable def ringsO (a b c d e f : Nat) : Nat → List (Nat × Nat)
  | 0 => [(a, b), (b, c), (c, d), (d, e), (e, f), (f, a)]
  | 1 => [(a, b), (b, c), (c, a), (d, e), (e, f), (f, d)]
  | 2 => [(a, b), (b, c), (c, d), (d, e), (e, a)]
  | 3 => [(a, b), (b, c), (c, d), (d, a)]
  | _ => [(a, b), (b, c), (c, a)]
noncomputable def codeR (aw : List (Nat × Nat)) : Nat := Nat.sub (Nat.sub 68719476735 34630287489) (fR (fun h ih => @Prod.rec Nat Nat (fun u0 => Nat) (fun x y => Nat.add ih (Nat.add (Nat.pow 2 (Nat.add (Nat.mul 6 x) y)) (Nat.pow 2 (Nat.add (Nat.mul 6 y) x)))) h) 0 aw)
noncomputable def nbR (aw : List (Nat × Nat)) (i : Nat) : List Nat := fR (fun h ih => @Prod.rec Nat Nat (fun u0 => List Nat) (fun x y => iteR (Nat.beq x i) (y :: ih) (iteR (Nat.beq y i) (x :: ih) ih)) h) [] aw
noncomputable def rowAw (nb : List Nat) (i : Nat) (js : List Nat) : List Nat → (List Nat → Bool) → Bool := @List.rec Nat (fun u0 => List Nat → (List Nat → Bool) → Bool) (fun acc k => k acc) (fun j u0 ih acc k => iteR (Nat.beq j i) (ih acc k) (iteR (memR j nb) (ih acc k) (ih (j :: acc) k))) js
noncomputable def okC (n r : Nat) : Bool := sixR false (fun a b c d e f => (fun aw => (fun A => iteR (fR (fun l ih => iteR (memR A l) true ih) false grs) (tabC A fun T => fR (fun i ih => (fun nb => rowAw nb i [5, 4, 3, 2, 1, 0] [] fun row => iteR (eqR row (T i)) (@List.rec Nat (fun u0 => Bool) false (fun u0 u0 u0 => ih) row) false) (nbR aw i)) true [0, 1, 2, 3, 4, 5]) false) (codeR aw)) (ringsO a b c d e f r)) (ordR n)
noncomputable def allR (p : Nat → Bool) (n : Nat) : Bool := @Nat.rec (fun u0 => Bool) true (fun m ih => iteR (p m) ih false) n
theorem allR_ok {p : Nat → Bool} : ∀ {n : Nat}, allR p n = true → ∀ m < n, p m = true
  | n + 1, h, m, hm => by
    have h' : iteR (p n) (allR p n) false = true := h
    cases q : p n with
    | false => rw [q] at h'; cases h'
    | true =>
      rw [q] at h'
      rcases Nat.lt_or_eq_of_le (Nat.le_of_lt_succ hm) with e | e
      · exact allR_ok h' m e
      · exact e ▸ q
noncomputable def okCs (i : Nat) : Bool := allR (fun m => allR (fun r => okC (Nat.add (Nat.mul 24 i) m) r) 5) 24
theorem ck0 : okCs 0 = true := by decide +kernel
theorem ck1 : okCs 1 = true := by decide +kernel
theorem ck2 : okCs 2 = true := by decide +kernel
theorem ck3 : okCs 3 = true := by decide +kernel
theorem ck4 : okCs 4 = true := by decide +kernel
theorem ck5 : okCs 5 = true := by decide +kernel
theorem ck6 : okCs 6 = true := by decide +kernel
theorem ck7 : okCs 7 = true := by decide +kernel
theorem ck8 : okCs 8 = true := by decide +kernel
theorem ck9 : okCs 9 = true := by decide +kernel
theorem ck10 : okCs 10 = true := by decide +kernel
theorem ck11 : okCs 11 = true := by decide +kernel
theorem ck12 : okCs 12 = true := by decide +kernel
theorem ck13 : okCs 13 = true := by decide +kernel
theorem ck14 : okCs 14 = true := by decide +kernel
theorem ck15 : okCs 15 = true := by decide +kernel
theorem ck16 : okCs 16 = true := by decide +kernel
theorem ck17 : okCs 17 = true := by decide +kernel
theorem ck18 : okCs 18 = true := by decide +kernel
theorem ck19 : okCs 19 = true := by decide +kernel
theorem ck20 : okCs 20 = true := by decide +kernel
theorem ck21 : okCs 21 = true := by decide +kernel
theorem ck22 : okCs 22 = true := by decide +kernel
theorem ck23 : okCs 23 = true := by decide +kernel
theorem ck24 : okCs 24 = true := by decide +kernel
theorem ck25 : okCs 25 = true := by decide +kernel
theorem ck26 : okCs 26 = true := by decide +kernel
theorem ck27 : okCs 27 = true := by decide +kernel
theorem ck28 : okCs 28 = true := by decide +kernel
theorem ck29 : okCs 29 = true := by decide +kernel
theorem allR_s {p : Nat → Bool} {n : Nat} (h : p n = true) (h' : allR p n = true) : allR p (n + 1) = true := by
  show iteR (p n) (allR p n) false = true
  rw [h]; exact h'
theorem ck_all : allR okCs 30 = true := allR_s ck29 (allR_s ck28 (allR_s ck27 (allR_s ck26 (allR_s ck25 (allR_s ck24 (allR_s ck23 (allR_s ck22 (allR_s ck21 (allR_s ck20 (allR_s ck19 (allR_s ck18 (allR_s ck17 (allR_s ck16 (allR_s ck15 (allR_s ck14 (allR_s ck13 (allR_s ck12 (allR_s ck11 (allR_s ck10 (allR_s ck9 (allR_s ck8 (allR_s ck7 (allR_s ck6 (allR_s ck5 (allR_s ck4 (allR_s ck3 (allR_s ck2 (allR_s ck1 (allR_s ck0 (rfl))))))))))))))))))))))))))))))
theorem all_codes {n r : Nat} (hn : n < 720) (hr : r < 5) : okC n r = true := by
  have h := allR_ok (allR_ok ck_all (n / 24) (by omega)) (n % 24) (Nat.mod_lt _ (by decide))
  have h := allR_ok h r hr
  rwa [show Nat.add (Nat.mul 24 (n / 24)) (n % 24) = n from Nat.div_add_mod n 24] at h
end Mine
end
section
open PySem PySem.W PyProof.Rows
namespace Mine
theorem iteR_eq {α : Type} (q : Bool) (a b : α) : iteR q a b = if q = true then a else b := by cases q <;> rfl
theorem beq_nat (a b : Nat) : Nat.beq a b = (a == b) := Bool.eq_iff_iff.mpr ⟨fun h => beq_iff_eq.mpr (Nat.eq_of_beq_eq_true h), fun h => beq_iff_eq.mp h ▸ Nat.beq_refl a⟩
theorem memR_eq (x : Nat) : ∀ l : List Nat, memR x l = l.contains x
  | [] => rfl
  | h :: l => by
    show iteR (Nat.beq h x) true (memR x l) = _
    rw [iteR_eq, memR_eq x l, List.contains_cons, beq_nat]
    by_cases e : h = x
    · subst e; rw [BEq.rfl]; rfl
    · rw [beq_eq_false_iff_ne.mpr e, beq_eq_false_iff_ne.mpr (Ne.symm e)]; rfl
theorem eqR_eq : ∀ a b : List Nat, eqR a b = (a == b)
  | [], [] => rfl
  | [], _ :: _ => rfl
  | _ :: _, [] => rfl
  | h :: a, k :: b => by
    show iteR (Nat.beq h k) (eqR a b) false = _
    rw [iteR_eq, eqR_eq a b, beq_nat]
    show _ = (h == k && a == b)
    cases h == k <;> rfl
theorem memLR_eq (x : List Nat) : ∀ l : List (List Nat), memLR x l = l.contains x
  | [] => rfl
  | h :: l => by
    show iteR (eqR h x) true (memLR x l) = _
    rw [iteR_eq, memLR_eq x l, List.contains_cons, eqR_eq]
    by_cases e : h = x
    · subst e; rw [BEq.rfl]; rfl
    · rw [beq_eq_false_iff_ne.mpr e, beq_eq_false_iff_ne.mpr (Ne.symm e)]; rfl
theorem lenR_eq {α : Type} : ∀ l : List α, lenR l = l.length
  | [] => rfl
  | _ :: l => congrArg Nat.succ (lenR_eq l)
theorem hdR_eq (l : List Nat) : hdR l = l.headD 0 := by cases l <;> rfl
theorem appR_eq (x : List Nat) : ∀ l : List (List Nat), appR l x = l ++ [x]
  | [] => rfl
  | h :: l => congrArg (h :: ·) (appR_eq x l)
theorem consR_eq {α : Type} (s : List α) : ∀ l : List α, fR (fun h t => h :: t) s l = l ++ s
  | [] => rfl
  | h :: l => congrArg (h :: ·) (consR_eq s l)
theorem revR_go {α : Type} : ∀ (l acc : List α), @List.rec α (fun u0 => List α → List α) (fun a => a) (fun h u0 ih a => ih (h :: a)) l acc = l.reverse ++ acc
  | [], _ => rfl
  | h :: l, acc => by
    show @List.rec α (fun u0 => List α → List α) (fun a => a) (fun h u0 ih a => ih (h :: a)) l (h :: acc) = _
    rw [revR_go l (h :: acc), List.reverse_cons, List.append_assoc]; rfl
theorem revR_eq {α : Type} (l : List α) : revR l = l.reverse := (revR_go l []).trans (List.append_nil _)
end Mine
end
section
open PySem PySem.W PyProof.Rows
namespace Mine
theorem last_rev (r : List Nat) : r.reverse.getLastD 0 = r.headD 0 := by
  cases r with
  | nil => rfl
  | cons a r => rw [List.reverse_cons]; simp
theorem grow_in (r : List Nat) (acc : List (List Nat)) : ∀ js : List Nat, fR (fun j acc => iteR (memR j r) acc ((j :: r) :: acc)) acc js = (js.filter fun j => !r.contains j).map (· :: r) ++ acc
  | [] => rfl
  | j :: js => by
    show iteR (memR j r) (fR (fun j acc => iteR (memR j r) acc ((j :: r) :: acc)) acc js) ((j :: r) :: fR (fun j acc => iteR (memR j r) acc ((j :: r) :: acc)) acc js) = _
    rw [iteR_eq, memR_eq, grow_in r acc js]
    cases q : r.contains j with
    | true => rw [if_pos rfl, List.filter_cons_of_neg (by rw [q]; decide)]
    | false => rw [if_neg Bool.false_ne_true, List.filter_cons_of_pos (by rw [q]; rfl)]; rfl
theorem growR_rev (T : Nat → List Nat) : ∀ l : List (List Nat), (growR T l).map List.reverse = growL T (l.map List.reverse)
  | [] => rfl
  | r :: l => by
    show (fR (fun j acc => iteR (memR j r) acc ((j :: r) :: acc)) (growR T l) (T (hdR r))).map List.reverse = _
    rw [grow_in, List.map_append, growR_rev T l, hdR_eq, ← last_rev]
    unfold growL
    rw [List.map_cons, List.flatMap_cons, List.map_map]
    congr 1
    have : (fun j => !r.contains j) = fun j => !r.reverse.contains j := funext fun j => by rw [Bool.eq_iff_iff]; simp
    rw [this]
    exact List.map_congr_left fun j u0 => List.reverse_cons
theorem linesR_rev (T : Nat → List Nat) (a : Nat) : (linesR T a).map List.reverse = growK T a 5 := by
  unfold linesR
  rw [growR_rev, growR_rev, growR_rev, growR_rev, growR_rev]; rfl
end Mine
end
section
open PySem PySem.W PyProof.Rows
namespace Mine
noncomputable def revM (l : List (List Nat)) : List (List Nat) := l.map List.reverse
theorem rev_inj {a b : List Nat} (h : a.reverse = b.reverse) : a = b := List.reverse_inj.mp h
theorem revM_has (x : List Nat) : ∀ l : List (List Nat), (revM l).contains x.reverse = l.contains x
  | [] => rfl
  | h :: l => by
    show ((h.reverse :: revM l).contains x.reverse) = _
    rw [List.contains_cons, List.contains_cons, revM_has x l]
    congr 1
    exact Bool.eq_iff_iff.mpr (by rw [beq_iff_eq, beq_iff_eq]; exact ⟨rev_inj, fun e => e ▸ rfl⟩)
theorem turnR_eq {γ : Type} (q : Bool) (x : List Nat) (acc pend : List (List Nat)) (k : List (List Nat) → List (List Nat) → γ) : turnR q x acc pend k = if (q && !acc.contains x) = true then k (x :: acc) (pend ++ [x]) else k acc pend := by
  unfold turnR
  rw [memLR_eq, appR_eq]
  cases q <;> cases acc.contains x <;> rfl
structure WbR (acc pend A : List (List Nat)) (i : Nat) : Prop where
  a : revM acc.reverse = A
  p : acc.reverse.drop i = pend
  i : i ≤ acc.length
  s : ∀ r ∈ acc, r.length = 6
theorem wbR_turn {γ : Type} {T : Nat → List Nat} {acc pend A : List (List Nat)} {i j : Nat} {p : List Nat} (h : WbR acc pend A i) (x : List Nat) (hx : x.reverse = turnL p j) (hl : x.length = 6) (k : List (List Nat) → List (List Nat) → γ) :
    ∃ acc' pend', WbR acc' pend' (stepW T p A j) i ∧ turnR ((T (p.getD 5 0)).contains (p.getD j 0)) x acc pend k = k acc' pend' := by
  have hc : A.contains (turnL p j) = acc.contains x := by
    rw [← hx, ← h.a, revM_has, Bool.eq_iff_iff, List.contains_iff_mem, List.contains_iff_mem, List.mem_reverse]
  rw [turnR_eq]
  unfold stepW
  rw [hc]
  split
  · refine ⟨x :: acc, pend ++ [x], ⟨?_, ?_, Nat.le_succ_of_le h.i, fun r m => ?_⟩, rfl⟩
    · rw [List.reverse_cons, ← hx, ← h.a]; exact List.map_append
    · rw [List.reverse_cons, List.drop_append_of_le_length (by rw [List.length_reverse]; exact h.i), h.p]
    · rcases List.mem_cons.mp m with rfl | m
      · exact hl
      · exact h.s r m
  · exact ⟨_, _, h, rfl⟩
theorem wbR_step {γ : Type} {T : Nat → List Nat} {acc pend A : List (List Nat)} {i : Nat} {r : List Nat} (h : WbR acc pend A i) (hr : r.length = 6) (k : List (List Nat) → List (List Nat) → γ) (d : γ) :
    ∃ acc' pend', WbR acc' pend' ([1, 2, 3].foldl (stepW T r.reverse) A) i ∧ stepR T r acc pend k d = k acc' pend' := by
  match r, hr with
  | [f, e, d', c, b, a], _ =>
    obtain ⟨a1, p1, h1, e1⟩ := wbR_turn (T := T) (p := [a, b, c, d', e, f]) (j := 1) h [c, d', e, f, b, a] rfl rfl fun acc pend => turnR ((T f).contains c) [d', e, f, c, b, a] acc pend fun acc pend => turnR ((T f).contains d') [e, f, d', c, b, a] acc pend k
    obtain ⟨a2, p2, h2, e2⟩ := wbR_turn (T := T) (p := [a, b, c, d', e, f]) (j := 2) h1 [d', e, f, c, b, a] rfl rfl fun acc pend => turnR ((T f).contains d') [e, f, d', c, b, a] acc pend k
    obtain ⟨a3, p3, h3, e3⟩ := wbR_turn (T := T) (p := [a, b, c, d', e, f]) (j := 3) h2 [e, f, d', c, b, a] rfl rfl k
    refine ⟨a3, p3, h3, ?_⟩
    show turnR (memR b (T f)) [c, d', e, f, b, a] acc pend (fun acc pend => turnR (memR c (T f)) [d', e, f, c, b, a] acc pend fun acc pend => turnR (memR d' (T f)) [e, f, d', c, b, a] acc pend k) = _
    simp only [memR_eq]
    exact e1.trans (e2.trans e3)
theorem webR_go {T : Nat → List Nat} : ∀ (f : Nat) {acc pend A : List (List Nat)} {i : Nat}, WbR acc pend A i → webR T f acc pend ≠ [] → webGo T f A i = some (revM (webR T f acc pend)) ∧ (∀ r ∈ webR T f acc pend, r.length = 6)
  | 0, _, _, _, _, _, hne => absurd rfl hne
  | f + 1, acc, [], A, i, h, _ => by
    have e : webR T (f + 1) acc [] = acc.reverse := revR_eq acc
    have hi : A[i]? = none := by
      rw [← h.a, revM, List.getElem?_map, List.getElem?_eq_none_iff.mpr (List.drop_eq_nil_iff.mp h.p)]; rfl
    rw [e, h.a]
    refine ⟨?_, fun r m => h.s r (List.mem_reverse.mp m)⟩
    show (match A[i]? with | none => some A | some p => webGo T f ([1, 2, 3].foldl (stepW T p) A) (i + 1)) = some A
    rw [hi]
  | f + 1, acc, r :: rest, A, i, h, hne => by
    have hi : acc.reverse[i]? = some r := by
      have := congrArg (·[0]?) h.p
      rwa [List.getElem?_drop] at this
    have hA : A[i]? = some r.reverse := by rw [← h.a, revM, List.getElem?_map, hi]; rfl
    have hlt := (List.getElem?_eq_some_iff.mp hi).1
    rw [List.length_reverse] at hlt
    have hr := h.s r (List.mem_reverse.mp (List.mem_of_getElem? hi))
    have h' : WbR acc rest A (i + 1) := ⟨h.a, by rw [← List.drop_drop, h.p]; rfl, hlt, h.s⟩
    obtain ⟨acc', pend', h2, e⟩ := wbR_step (T := T) h' hr (webR T f) []
    have e2 : webR T (f + 1) acc (r :: rest) = webR T f acc' pend' := e
    rw [e2] at hne ⊢
    have ih := webR_go f h2 hne
    refine ⟨?_, ih.2⟩
    show (match A[i]? with | none => some A | some p => webGo T f ([1, 2, 3].foldl (stepW T p) A) (i + 1)) = _
    rw [hA]
    exact ih.1
theorem web_go {T : Nat → List Nat} {r : List Nat} (hr : r.length = 6) (hne : webR T 100 [r] [r] ≠ []) : webGo T 100 [r.reverse] 0 = some (revM (webR T 100 [r] [r])) :=
  (webR_go 100 (A := [r.reverse]) ⟨rfl, rfl, Nat.zero_le _, fun x m => by cases List.mem_singleton.mp m; exact hr⟩ hne).1
end Mine
end
section
open PySem PySem.W PyProof.Rows
namespace Mine
noncomputable def sumF (f : Nat → Nat) : Nat → Nat
  | 0 => 0
  | n + 1 => sumF f n + f n * 65536 ^ n
noncomputable def codN (t : List (Nat × Nat)) : Nat := sumF (getN t) 36
theorem getN_bump (k j : Nat) : ∀ t : List (Nat × Nat), getN (bumpN t k) j = getN t j + if j = k then 1 else 0
  | [] => by
    show (if (k == j) = true then 1 else 0) = 0 + if j = k then 1 else 0
    rw [Nat.zero_add]
    by_cases e : j = k
    · rw [if_pos e, if_pos (beq_iff_eq.mpr e.symm)]
    · rw [if_neg e, if_neg fun q => e (eq_of_beq q).symm]
  | (i, c) :: t => by
    show getN (if (i == k) = true then (i, c + 1) :: t else (i, c) :: bumpN t k) j = (if (i == j) = true then c else getN t j) + _
    by_cases e : i = k
    · subst e
      rw [if_pos BEq.rfl]
      show (if (i == j) = true then c + 1 else getN t j) = _
      by_cases q : i = j
      · rw [if_pos (beq_iff_eq.mpr q), if_pos (beq_iff_eq.mpr q), if_pos q.symm]
      · rw [if_neg fun z => q (eq_of_beq z), if_neg fun z => q (eq_of_beq z), if_neg (Ne.symm q)]; rfl
    · rw [if_neg fun z => e (eq_of_beq z)]
      show (if (i == j) = true then c else getN (bumpN t k) j) = _
      by_cases q : i = j
      · rw [if_pos (beq_iff_eq.mpr q), if_pos (beq_iff_eq.mpr q), if_neg fun z => e (q.trans z)]; rfl
      · rw [if_neg fun z => q (eq_of_beq z), if_neg fun z => q (eq_of_beq z), getN_bump k j t]
theorem sumF_bump {f g : Nat → Nat} {k : Nat} (h : ∀ j, g j = f j + if j = k then 1 else 0) : ∀ n, sumF g n = sumF f n + if k < n then 65536 ^ k else 0
  | 0 => rfl
  | n + 1 => by
    show sumF g n + g n * 65536 ^ n = sumF f n + f n * 65536 ^ n + _
    rw [sumF_bump h n, h n]
    rcases Nat.lt_trichotomy k n with q | q | q
    · rw [if_pos q, if_neg (by omega), if_pos (by omega), Nat.add_zero]; omega
    · subst q; rw [if_neg (Nat.lt_irrefl _), if_pos rfl, if_pos (Nat.lt_succ_self _), Nat.add_mul, Nat.one_mul]; omega
    · rw [if_neg (by omega), if_neg (by omega), if_neg (by omega)]; rfl
theorem codN_bump {k : Nat} (hk : k < 36) (t : List (Nat × Nat)) : codN (bumpN t k) = codN t + 65536 ^ k :=
  (sumF_bump (fun j => getN_bump k j t) 36).trans (by rw [if_pos hk]; rfl)
theorem tieN_eq {r : List Nat} (hr : r.length = 6) (h6 : ∀ x ∈ r, x < 6) (t : List (Nat × Nat)) : tieN r (codN t) = codN ((pairsN r.reverse).foldl bumpN t) := by
  match r, hr with
  | [f, e, d, c, b, a], _ =>
    have hf := h6 f (.head _)
    have he := h6 e (.tail _ (.head _))
    have hd := h6 d (.tail _ (.tail _ (.head _)))
    have hc := h6 c (.tail _ (.tail _ (.tail _ (.head _))))
    have hb := h6 b (.tail _ (.tail _ (.tail _ (.tail _ (.head _)))))
    have ha := h6 a (.tail _ (.tail _ (.tail _ (.tail _ (.tail _ (.head _))))))
    have k : ∀ {x y : Nat}, x < 6 → y < 6 → 6 * x + y < 36 := fun {x y} hx hy => by omega
    show _ = codN (bumpN (bumpN (bumpN (bumpN (bumpN (bumpN t (6 * a + b)) (6 * b + c)) (6 * c + d)) (6 * d + e)) (6 * e + f)) (6 * f + a))
    rw [codN_bump (k hf ha), codN_bump (k he hf), codN_bump (k hd he), codN_bump (k hc hd), codN_bump (k hb hc), codN_bump (k ha hb)]; rfl
theorem idx_rev (x : List Nat) : ∀ l : List (List Nat), (revM l).idxOf x.reverse = idxR x l
  | [] => rfl
  | h :: l => by
    show (h.reverse :: revM l).idxOf x.reverse = iteR (eqR h x) 0 (Nat.succ (idxR x l))
    rw [List.idxOf_cons, idx_rev x l, iteR_eq, eqR_eq, show (h.reverse == x.reverse) = (h == x) from Bool.eq_iff_iff.mpr (by rw [beq_iff_eq, beq_iff_eq]; exact ⟨rev_inj, fun e => e ▸ rfl⟩)]
    cases h == x <;> rfl
theorem isCl_eq {T : Nat → List Nat} {a : Nat} {r : List Nat} (hr : r.length = 6) : (T (r.reverse.getD 5 0)).contains a = isCl T a r := by
  match r, hr with
  | [f, e, d, c, b, a'], _ => exact (memR_eq a (T f)).symm
noncomputable def tabF (T : Nat → List Nat) (a : Nat) (W : List (List Nat)) (t : List (Nat × Nat)) : List (Nat × Nat) := W.foldl (fun t r => if isCl T a r = true then (pairsN r.reverse).foldl bumpN t else t) t
noncomputable def addR (T : Nat → List Nat) (a : Nat) (ls W : List (List Nat)) (t : Tot) : Tot :=
  ⟨foldR (fun n r => iteR (isCl T a r) (Nat.succ n) n) W t.rounds, t.count + W.length, foldR (fun s r => Nat.add s (idxR r ls)) W t.sum, foldR (fun s r => (fun i => Nat.add s (Nat.mul i i)) (idxR r ls)) W t.sq, tabF T a W t.tab⟩
theorem cod_fold {T : Nat → List Nat} {a : Nat} {C : List (Nat × Nat) → Nat} (hC : ∀ {r : List Nat}, r.length = 6 → (∀ x ∈ r, x < 6) → ∀ t, tieN r (C t) = C ((pairsN r.reverse).foldl bumpN t)) : ∀ (W : List (List Nat)) (t : List (Nat × Nat)), (∀ r ∈ W, r.length = 6) → (∀ r ∈ W, ∀ x ∈ r, x < 6) → foldR (fun t r => iteR (isCl T a r) (tieN r t) t) W (C t) = C (tabF T a W t)
  | [], _, _, _ => rfl
  | r :: W, t, h, h' => by
    have e : iteR (isCl T a r) (tieN r (C t)) (C t) = C (if isCl T a r = true then (pairsN r.reverse).foldl bumpN t else t) := by
      rw [hC (h r (.head _)) (h' r (.head _))]
      cases isCl T a r <;> rfl
    show foldR (fun t r => iteR (isCl T a r) (tieN r t) t) W (iteR (isCl T a r) (tieN r (C t)) (C t)) = _
    rw [e, cod_fold hC W _ (fun q m => h q (.tail _ m)) fun q m => h' q (.tail _ m)]; rfl
theorem add_rev {T : Nat → List Nat} {a : Nat} {ls : List (List Nat)} : ∀ (W : List (List Nat)) (t : Tot), (∀ r ∈ W, r.length = 6) → (revM W).foldl (addT T a (revM ls)) t = addR T a ls W t
  | [], _, _ => rfl
  | r :: W, t, h => by
    have hr := h r (.head _)
    have e : addT T a (revM ls) t r.reverse = addR T a ls [r] t := by
      unfold addT
      rw [idx_rev, isCl_eq hr]
      show (⟨_, _, _, _, _⟩ : Tot) = ⟨iteR (isCl T a r) (Nat.succ t.rounds) t.rounds, t.count + 1, _, _, if isCl T a r = true then (pairsN r.reverse).foldl bumpN t.tab else t.tab⟩
      cases isCl T a r <;> rfl
    show (revM W).foldl (addT T a (revM ls)) (addT T a (revM ls) t r.reverse) = _
    rw [e, add_rev W _ fun q m => h q (.tail _ m)]
    show (⟨_, t.count + 1 + W.length, _, _, _⟩ : Tot) = ⟨_, t.count + (W.length + 1), _, _, _⟩
    rw [Nat.add_assoc, Nat.add_comm 1]; rfl
theorem inR_ok {ls : List (List Nat)} : ∀ {W : List (List Nat)}, fR (fun r ih => iteR (memLR r ls) ih false) true W = true → ∀ r ∈ W, r ∈ ls
  | [], _, r, m => nomatch m
  | r :: W, h, q, m => by
    have h : iteR (memLR r ls) (fR (fun r ih => iteR (memLR r ls) ih false) true W) false = true := h
    rw [iteR_eq, memLR_eq] at h
    split at h
    · rename_i h1
      rcases List.mem_cons.mp m with rfl | m
      · exact List.contains_iff_mem.mp h1
      · exact inR_ok h q m
    · cases h
inductive RunO (T : Nat → List Nat) (a : Nat) (ls : List (List Nat)) (k : List (List Nat) → Nat → Nat → Nat → Nat → Bool) (r S : List (List Nat)) (t : Tot) : Prop
  | mk (t' : Tot) (seen' : List (List Nat)) (P : RunP T a (revM ls) (revM r) S t t') (e : k seen' t'.rounds t'.sum t'.sq (codN t'.tab) = true) (c : seen'.length = t'.count) (l : t.count ≤ t'.count) : RunO T a ls k r S t
theorem run_P {T : Nat → List Nat} {a : Nat} {ls : List (List Nat)} {k : List (List Nat) → Nat → Nat → Nat → Nat → Bool} (h6 : ∀ r ∈ ls, r.length = 6) (h66 : ∀ r ∈ ls, ∀ x ∈ r, x < 6) (hk : ∀ seen n s q t, k seen n s q t = true → seen.length ≤ 1000000) :
    ∀ (r seen S : List (List Nat)) (t : Tot), (∀ x ∈ r, x ∈ ls) → (∀ x, x.reverse ∈ S ↔ x ∈ seen) → seen.length = t.count → S.length = t.count → runR T a ls k r seen t.rounds t.sum t.sq (codN t.tab) = true → RunO T a ls k r S t
  | [], seen, S, t, _, _, hc, _, h => ⟨t, seen, .nil, h, hc, Nat.le_refl _⟩
  | p :: r, seen, S, t, hr, hs, hc, hS, h => by
    have h : iteR (memLR p seen) (runR T a ls k r seen t.rounds t.sum t.sq (codN t.tab)) ((fun W => @List.rec (List Nat) (fun u0 => Bool) false (fun u0 u0 u0 => iteR (fR (fun r ih => iteR (memLR r ls) ih false) true W) (iteR (Nat.beq (Nat.mod (addR T a ls W t).rounds 2) 1) false
      (runR T a ls k r (fR (fun h t => h :: t) W seen) (addR T a ls W t).rounds (addR T a ls W t).sum (addR T a ls W t).sq (foldR (fun t r => iteR (isCl T a r) (tieN r t) t) W (codN t.tab)))) false) W) (webR T 100 [p] [p])) = true := h
    rw [iteR_eq, memLR_eq] at h
    split at h
    · rename_i h1
      obtain ⟨t', seen', P, e, c, l⟩ := run_P h6 h66 hk r seen S t (fun x m => hr x (.tail _ m)) hs hc hS h
      exact ⟨t', seen', .old ((hs p).mpr (List.contains_iff_mem.mp h1)) P, e, c, l⟩
    · rename_i h1
      have hne : webR T 100 [p] [p] ≠ [] := fun e => by rw [e] at h; cases h
      have hw := web_go (T := T) (h6 p (hr p (.head _))) hne
      generalize webR T 100 [p] [p] = W at h hne hw
      have h : iteR (fR (fun r ih => iteR (memLR r ls) ih false) true W) (iteR (Nat.beq (Nat.mod (addR T a ls W t).rounds 2) 1) false
        (runR T a ls k r (fR (fun h t => h :: t) W seen) (addR T a ls W t).rounds (addR T a ls W t).sum (addR T a ls W t).sq (foldR (fun t r => iteR (isCl T a r) (tieN r t) t) W (codN t.tab)))) false = true := by
        cases W with
        | nil => cases h
        | cons q W => exact h
      rw [iteR_eq] at h
      split at h
      · rename_i h2
        have hW := inR_ok h2
        have hadd := add_rev (T := T) (a := a) (ls := ls) W t fun q m => h6 q (hW q m)
        rw [iteR_eq, beq_nat, consR_eq, cod_fold tieN_eq W _ (fun q m => h6 q (hW q m)) fun q m => h66 q (hW q m)] at h
        split at h
        · cases h
        · rename_i h3
          have h3 : (addR T a ls W t).rounds % 2 = 0 := by
            have h3 : ¬ (((addR T a ls W t).rounds % 2 == 1) = true) := h3
            rw [beq_iff_eq] at h3; omega
          have hl : (revM W).length = W.length := List.length_map _
          obtain ⟨t', seen', P, e, c, l⟩ := run_P h6 h66 hk r (seen ++ W) (S ++ revM W) (addR T a ls W t) (fun x m => hr x (.tail _ m)) (fun x => by
            rw [List.mem_append, List.mem_append, hs x, ← List.contains_iff_mem (as := revM W), revM_has, List.contains_iff_mem]) (by rw [List.length_append, hc]; rfl) (by rw [List.length_append, hS, hl]; rfl) h
          refine ⟨t', seen', .new (W := revM W) (fun m => h1 (List.contains_iff_mem.mpr ((hs p).mp m))) hw (fun q => hne (List.map_eq_nil_iff.mp q)) (fun q m => ?_) ?_ (by rw [hadd]; exact h3) (by rw [hadd]; exact P), e, c, Nat.le_trans (Nat.le_add_right _ _) l⟩
          · obtain ⟨x, mx, rfl⟩ := List.mem_map.mp m
            exact List.mem_map_of_mem (hW x mx)
          · rw [hS, hl]
            exact Nat.le_trans l (c ▸ hk _ _ _ _ _ e)
      · cases h
end Mine
end
section
open PySem PySem.W PyProof.Rows
namespace Mine
theorem range_sum : ∀ m : Nat, 2 * (List.range m).sum = m * (m - 1)
  | 0 => rfl
  | 1 => rfl
  | m + 2 => by
    rw [List.range_succ, List.sum_append, Nat.mul_add, range_sum (m + 1)]
    show (m + 1) * m + 2 * (m + 1 + 0) = (m + 2) * (m + 1)
    simp only [Nat.mul_add, Nat.add_mul]; omega
theorem range_sq : ∀ m : Nat, 6 * ((List.range m).map fun i => i * i).sum = m * (m - 1) * (2 * m - 1)
  | 0 => rfl
  | 1 => rfl
  | m + 2 => by
    rw [List.range_succ, List.map_append, List.sum_append, Nat.mul_add, range_sq (m + 1)]
    show (m + 1) * m * (2 * m + 1) + 6 * ((m + 1) * (m + 1) + 0) = (m + 2) * (m + 1) * (2 * m + 3)
    simp only [Nat.mul_add, Nat.add_mul, Nat.mul_assoc, Nat.mul_left_comm m 2, Nat.mul_comm m 3, Nat.mul_left_comm m 3, Nat.mul_one, Nat.one_mul, Nat.add_zero]; omega
noncomputable def sumN (t : List (Nat × Nat)) : Nat := (t.map (·.2)).sum
theorem bump_sum (k : Nat) : ∀ t : List (Nat × Nat), sumN (bumpN t k) = sumN t + 1
  | [] => rfl
  | (j, c) :: t => by
    show sumN (if (j == k) = true then (j, c + 1) :: t else (j, c) :: bumpN t k) = _
    split
    · show c + 1 + sumN t = c + sumN t + 1; omega
    · show c + sumN (bumpN t k) = c + sumN t + 1; rw [bump_sum k t]; rfl
theorem bumps_sum : ∀ (ks : List Nat) (t : List (Nat × Nat)), sumN (ks.foldl bumpN t) = sumN t + ks.length
  | [], _ => rfl
  | k :: ks, t => by
    show sumN (ks.foldl bumpN (bumpN t k)) = _
    rw [bumps_sum ks, bump_sum, List.length_cons]; omega
structure Six (t : Tot) : Prop where
  s : sumN t.tab = 6 * t.rounds
  c : t.rounds ≤ t.count
theorem adds_six {T : Nat → List Nat} {a : Nat} {ls : List (List Nat)} : ∀ (W : List (List Nat)) (t : Tot), (∀ p ∈ W, p.length = 6) → Six t → Six (W.foldl (addT T a ls) t)
  | [], _, _, h => h
  | p :: W, t, h6, h => adds_six W _ (fun q m => h6 q (.tail _ m)) (by
    have hp : (pairsN p).length = 6 := by
      have := h6 p (.head _)
      match p, this with
      | [a, b, c, d, e, f], _ => rfl
    unfold addT
    dsimp only
    split
    · exact ⟨by show sumN ((pairsN p).foldl bumpN t.tab) = 6 * (t.rounds + 1); rw [bumps_sum, hp, h.s]; rfl, Nat.succ_le_succ h.c⟩
    · exact ⟨h.s, Nat.le_succ_of_le h.c⟩)
theorem runP_six {T : Nat → List Nat} {a : Nat} {ls r S : List (List Nat)} {t t' : Tot} (h6 : ∀ p ∈ ls, p.length = 6) (h66 : ∀ p ∈ ls, ∀ x ∈ p, x < 6) (h : RunP T a ls r S t t') : Six t → TotOk t → Six t' ∧ TotOk t' := by
  induction h with
  | nil => exact fun a b => ⟨a, b⟩
  | old h n ih => exact ih
  | new h w ne hW hz e n ih => exact fun q k => ih (adds_six _ _ (fun p m => h6 p (hW p m)) q) (totsOk _ k fun p m => h66 p (hW p m))
theorem sumF_lt {f : Nat → Nat} (h : ∀ j, f j < 65536) : ∀ n, sumF f n < 65536 ^ n
  | 0 => Nat.zero_lt_one
  | n + 1 => by
    have h1 := sumF_lt h n
    have h2 := Nat.mul_le_mul_right (65536 ^ n) (Nat.le_of_lt_succ (h n))
    show sumF f n + f n * 65536 ^ n < 65536 ^ n * 65536
    omega
theorem sumF_dig {f : Nat → Nat} (h : ∀ j, f j < 65536) {k : Nat} : ∀ {n : Nat}, k < n → sumF f n / 65536 ^ k % 65536 = f k
  | n + 1, hk => by
    have hp : 0 < 65536 ^ k := Nat.pow_pos (by decide)
    show (sumF f n + f n * 65536 ^ n) / 65536 ^ k % 65536 = f k
    rcases Nat.lt_or_eq_of_le (Nat.le_of_lt_succ hk) with q | q
    · have e : 65536 ^ n = 65536 ^ k * (65536 * 65536 ^ (n - k - 1)) := by
        rw [Nat.mul_comm 65536, ← Nat.pow_succ, ← Nat.pow_add]; congr 1; omega
      rw [e, Nat.mul_left_comm, Nat.add_mul_div_left _ _ hp, Nat.mul_left_comm, Nat.add_mul_mod_self_left]
      exact sumF_dig h q
    · subst q
      rw [Nat.mul_comm, Nat.add_mul_div_left _ _ hp, Nat.div_eq_of_lt (sumF_lt h k), Nat.zero_add, Nat.mod_eq_of_lt (h k)]
theorem tabOkR_ok {v : Nat} : ∀ {n : Nat}, tabOkR v n = true → ∀ k < n, digR v k % 2 = 0 ∧ digR v k = digR v (6 * (k % 6) + k / 6)
  | n + 1, h, k, hk => by
    have h : iteR (Nat.beq (digR v n % 2) 0) (iteR (Nat.beq (digR v n) (digR v (6 * (n % 6) + n / 6))) (tabOkR v n) false) false = true := h
    rw [iteR_eq, iteR_eq, beq_nat, beq_nat] at h
    split at h
    · rename_i h1
      split at h
      · rename_i h2
        rcases Nat.lt_or_eq_of_le (Nat.le_of_lt_succ hk) with q | rfl
        · exact tabOkR_ok h k q
        · exact ⟨eq_of_beq h1, eq_of_beq h2⟩
      · cases h
    · cases h
theorem getN_le (k : Nat) : ∀ t : List (Nat × Nat), getN t k ≤ sumN t
  | [] => Nat.le_refl _
  | (j, c) :: t => by
    show (if (j == k) = true then c else getN t k) ≤ c + sumN t
    have := getN_le k t
    split <;> omega
theorem getN_mem : ∀ {t : List (Nat × Nat)}, (t.map (·.1)).Nodup → ∀ p ∈ t, getN t p.1 = p.2
  | (j, c) :: t, hn, p, m => by
    obtain ⟨h1, h2⟩ := List.nodup_cons.mp hn
    show (if (j == p.1) = true then c else getN t p.1) = p.2
    rcases List.mem_cons.mp m with rfl | m
    · exact if_pos BEq.rfl
    · have e : j ≠ p.1 := fun q => h1 (List.mem_map.mpr ⟨p, m, q.symm⟩)
      rw [if_neg fun q => e (eq_of_beq q)]
      exact getN_mem h2 p m
theorem tab_ok2 {t : Tot} (h : Six t) (k : TotOk t) (hc : t.count ≤ 7776) (hv : tabOkR (codN t.tab) 36 = true) : ∀ p ∈ t.tab, p.2 % 2 = 0 ∧ p.2 = getN t.tab (6 * (p.1 % 6) + p.1 / 6) := fun p m => by
  have hb : ∀ j, getN t.tab j < 65536 := fun j => by
    have h1 := getN_le j t.tab
    have h2 := h.s
    have h3 := h.c
    omega
  have hd : ∀ j < 36, digR (codN t.tab) j = getN t.tab j := fun j hj => sumF_dig hb hj
  have hp := k.k p m
  have := tabOkR_ok hv p.1 hp
  rwa [hd _ hp, hd _ (by omega), getN_mem k.nd p m] at this
structure RunF (T : Nat → List Nat) (a : Nat) (ls : List (List Nat)) (t : Tot) : Prop where
  r : RunP T a ls ls [] ⟨0, 0, 0, 0, []⟩ t
  c : t.count = ls.length
  s : t.sum = (List.range ls.length).sum
  q : t.sq = ((List.range ls.length).map fun i => i * i).sum
  k : ∀ p ∈ t.tab, p.2 % 2 = 0 ∧ p.2 = getN t.tab (6 * (p.1 % 6) + p.1 / 6)
  six : sumN t.tab = 6 * t.rounds
theorem kC_ok {m : Nat} {seen : List (List Nat)} {n s q t : Nat} (h : kC m seen n s q t = true) : seen.length = m ∧ 2 * s = m * (m - 1) ∧ 6 * q = m * (m - 1) * (2 * m - 1) ∧ tabOkR t 36 = true := by
  unfold kC at h
  rw [iteR_eq, iteR_eq, iteR_eq, beq_nat, beq_nat, beq_nat, lenR_eq] at h
  split at h
  · rename_i h1
    split at h
    · rename_i h2
      split at h
      · rename_i h3
        exact ⟨eq_of_beq h1, eq_of_beq h2, eq_of_beq h3, h⟩
      · cases h
    · cases h
  · cases h
theorem chk_run {T : Nat → List Nat} {a : Nat} (hT : TOk T) (ha : a < 6) (h : chkR T a = true) : ∃ t, RunF T a (growK T a 5) t := by
  have e := linesR_rev T a
  have g := growK_ok hT ha 5
  have h : runR T a (linesR T a) (kC (lenR (linesR T a))) (linesR T a) [] 0 0 0 0 = true := h
  have hl : (linesR T a).length = (growK T a 5).length := by rw [← e, List.length_map]
  have h6 : ∀ r ∈ linesR T a, r.length = 6 := fun r m => by
    have := g.l r.reverse (e ▸ List.mem_map_of_mem m)
    rwa [List.length_reverse] at this
  rw [lenR_eq, hl] at h
  have h66 : ∀ r ∈ linesR T a, ∀ x ∈ r, x < 6 := fun r m x mx => g.m r.reverse (e ▸ List.mem_map_of_mem m) x (List.mem_reverse.mpr mx)
  obtain ⟨t', seen', P, k, c, u1⟩ := run_P h6 h66 (fun seen n s q t hk => by
    have := g.n
    rw [(kC_ok hk).1]
    exact Nat.le_trans this (by decide)) (linesR T a) [] [] ⟨0, 0, 0, 0, []⟩ (fun u0 m => m) (fun x => ⟨(fun m => nomatch m), (fun m => nomatch m)⟩) rfl rfl h
  have hP : RunP T a (growK T a 5) (growK T a 5) [] ⟨0, 0, 0, 0, []⟩ t' := by
    have : revM (linesR T a) = growK T a 5 := e
    rw [← this]; exact P
  obtain ⟨k1, k2, k3, k4⟩ := kC_ok k
  have s2 := range_sum (growK T a 5).length
  have s6 := range_sq (growK T a 5).length
  obtain ⟨i1, i2⟩ := runP_six (fun p m => g.l p m) g.m hP ⟨rfl, Nat.le_refl _⟩ ⟨(fun u0 m => nomatch m), List.Pairwise.nil⟩
  exact ⟨t', hP, c.symm.trans k1, by omega, by omega, tab_ok2 i1 i2 (by rw [← c, k1]; exact g.n) k4, i1.s⟩
end Mine
end
section
open PySem PySem.W PyProof.Rows
namespace Mine
noncomputable def fig3 (a b c : Int) : D := .tup [.int a, .int b, .int c]
theorem fig3_rd {σ : St} {a b c : Int} : Rd σ (fig3 a b c) (.tuple [.int a, .int b, .int c]) := rd_tup (rdL_cons rd_int (rdL_cons rd_int (rdL_cons rd_int rdL_nil)))
theorem cmp_fig3 {σ : St} {a b c : Int} : CmpOk σ .NotEq (fig3 a b c) (fig3 a b c) false := cmp_same (n := 1) (.tuple (.cons .int (.cons .int (.cons .int .nil)))) (by decide) fig3_rd fig3_rd
theorem key_rev {s : Nat → Nat} {k : Nat} (hk : k < 36) : slS (keyS s k) none none (some (-1)) = keyS s (6 * (k % 6) + k / 6) := by
  have e : ∀ x y : Nat, slS (mkS [x, y]) none none (some (-1)) = mkS [y, x] := fun x y => by kernel_rfl
  unfold keyS
  rw [e, show (6 * (k % 6) + k / 6) / 6 = k % 6 by omega, show (6 * (k % 6) + k / 6) % 6 = k / 6 by omega]
theorem tab_get {s : Nat → Nat} (h : SgOk s) {k : Nat} (hk : k < 36) : ∀ t : List (Nat × Nat), (∀ p ∈ t, p.1 < 36) → (kget (intD (tabT s t)) (keyS s k)).getD (.int 0) = .int ((getN t k : Nat) : Int)
  | [], _ => rfl
  | (j, c) :: t, h6 => by
    show (if keyS s j = keyS s k then some (D.int ((c : Nat) : Int)) else kget (intD (tabT s t)) (keyS s k)).getD (.int 0) = .int (((if (j == k) = true then c else getN t k) : Nat) : Int)
    by_cases e : j = k
    · subst e; rw [if_pos rfl, if_pos BEq.rfl]; rfl
    · rw [if_neg fun q => e (keyS_inj h (h6 (j, c) (.head _)) hk q), if_neg (by rw [beq_iff_eq]; exact e), tab_get h hk t fun p m => h6 p (.tail _ m)]
theorem sumC_tab (s : Nat → Nat) : ∀ t : List (Nat × Nat), sumC (tabT s t) = ((sumN t : Nat) : Int)
  | [] => rfl
  | (j, c) :: t => by
    show (c : Int) + sumC (tabT s t) = ((c + sumN t : Nat) : Int)
    rw [sumC_tab s t]; rfl
section
variable {C : Cx} {X : Lw} {σ : St} {t : Int × Int} {m a sn : Nat} {ls : List (List Nat)} {tt : Tot} {P : Addr}
theorem lw_28 (Q : Pr C) (hz : ls.length ≤ 7776) (R : RunF X.T a ls tt) (h : EN C P (X.w t a m ls sn tt []) 29 σ) : EN C P (X.w t a m ls sn tt []) 28 σ := h.from fun {A env σ'} u => by
  have hlen : ∀ {σ : St} {pos p p' : Pos}, TE (.fn C A 8 fd16 env) (X.w t a m ls sn tt []) (eval (.Call (.Name "len" p) [.Name "lines" p'] [] pos) env) σ (.int (ls.length : Int)) σ := fun {σ pos p p'} =>
    TE.val (TE_bi (K := .fn C A 8 fd16 env) Q.G.len (by kernel_rfl) rfl rfl (a1 (tv 30 rfl)) fun q r => bi_len (.z _) (by rw [lnD_len]; exact Nat.le_trans hz (by decide)) q.I r) (by rw [lnD_len])
  have hi : ∀ {i : Nat}, i ∈ List.range ls.length → ((i : Nat) : Int).natAbs < 2 ^ 63 := fun {i} mi => by
    have := List.mem_range.mp mi
    exact Nat.lt_of_lt_of_le this (Nat.le_trans hz (by decide))
  have hq : (tt.sq : Int) = ((List.range ls.length).map fun j => ((j : Nat) : Int) * (j : Int)).sum := (congrArg (fun n : Nat => (n : Int)) R.q).trans (sum_sq _).symm
  refine TR_cons (TS_if_f (TB_cmp (a := fig3 (tt.count : Nat) (tt.sum : Nat) (tt.sq : Nat)) (b := fig3 (tt.count : Nat) (tt.sum : Nat) (tt.sq : Nat)) (TE_sl (tv 33 rfl) (TE_part_some TE_int) (TE_part_some TE_int) TE_part_none (.int _) (.int _) .none sl_mid)
    (TE_tuple (ac (TE.val hlen (by rw [R.c])) (ac (TE.val (TE_sumRange Q.G.sum (by kernel_rfl) Q.G.range (by kernel_rfl) (a1 hlen) (Nat.le_trans hz (by decide))) (by rw [R.s]))
      (a1 (TE.val (TE_bi Q.G.sum (by kernel_rfl) rfl rfl (a1 (TP.rest made_L (TP_lm [8] (fun j : Nat => .int (j : Nat)) (fun j => .int ((j : Int) * (j : Int))) (List.range ls.length) (TI_range1 (n := ls.length) Q.G.range (by kernel_rfl) rfl (a1 hlen) (Nat.le_trans hz (by decide))) rfl (by rw [List.length_range]; exact Nat.le_trans hz (by decide)) fun cenv j mj => ⟨.v (i := 8) rfl rfl, .set rfl, TE_bin (tv 8 rfl) (tv 8 rfl) (bin_mul (.inl (hi mj)))⟩))) fun q r => bi_sum (ns := (List.range ls.length).map fun j : Nat => (j : Int) * (j : Int)) (by rw [List.map_map]; exact .z _) q.o.room.handled q.I r) (congrArg D.int hq.symm))))) (Nat.le_of_ble_eq_true rfl)) cmp_fig3 rfl) TS_nil) u
theorem lw_29 (Q : Pr C) (ht : TotOk tt) (R : RunF X.T a ls tt) (h : EN C P (X.w t a m ls sn tt []) 30 σ) : EN C P (X.w t a m ls sn tt []) 29 σ := h.from fun u => by
  have hS := sgnF_ok X.v
  have h4 : ∀ {σ : St}, IdxOk σ (totD (sgnF X.v) tt) (.int 4) (.ds (intD (tabT (sgnF X.v) tt.tab))) := fun {σ} => idx_tup (j := 4) rfl (by decide)
  have hb : ((((2 : Int) * 0 == 1) || false) : Bool) = false := rfl
  refine TR_cons (TS_if_f (TB.to (TB_boolop (TB_or (TB_cmp (b := .lst []) (TE.val (TP.rest made_L (TP_lf [44, 45] (fun p : Nat × Nat => .tup [.str (keyS (sgnF X.v) p.1), .int (p.2 : Nat)]) (fun p => .str (keyS (sgnF X.v) p.1)) (fun u0 => false) tt.tab (TI_items (TE_idx (tv 33 rfl) TE_int h4)) (by unfold intD mapD tabT; rw [List.map_map, List.map_map]; rfl) (Nat.le_trans (tab_len ht) (by decide)) fun cenv p mp =>
    ⟨.t (.cons (i := 44) rfl rfl (.cons (i := 45) rfl rfl (.nil _))), (Le.set rfl).trans (.set rfl), TT_one (TB.to (TB_boolop (TB_or (TB_cmp (TE.val (TE_bin (tv 45 rfl) TE_int (bin_fmod (by decide))) (congrArg D.int (fmod_nat p.2 2))) TE_int cmp_eqi rfl)
      (TB_or (TB_cmp (tv 45 rfl) (TE.val (TE_getS (.z _) (.z _) (TE_idx (tv 33 rfl) TE_int h4) (a2 (TE.val (TE_sl (tv 44 rfl) TE_part_none TE_part_none (TE_part_some (TE_neg TE_int)) .none .none (.int _) (sl_str rfl (by rw [key_rev (ht.k p mp)]; exact Nat.le_of_ble_eq_true rfl))) (congrArg D.str (key_rev (ht.k p mp)))) TE_int)) (tab_get hS (by have := ht.k p mp; omega) tt.tab ht.k)) cmp_nei rfl) TB_or_nil)))
      (by rw [(R.k p mp).1, ← (R.k p mp).2, BEq.rfl]; rfl)), fun q => nomatch q⟩)) (congrArg D.lst (show (tt.tab.filter fun u0 => false).map _ = [] by rw [List.filter_eq_nil_iff.mpr fun u0 u0 => Bool.false_ne_true]; rfl)))
    (TE_list an (Nat.zero_le _)) (cmp_same (n := 1) (.list .nil) (by decide) (rd_lst (.z _) rdL_nil) (rd_lst (.z _) rdL_nil)) rfl)
    (TB_or (TB_cmp (call Q.F4 (count_fn Q.G Q.F4 (tabT (sgnF X.v) tt.tab)) (a1 (TE_idx (tv 33 rfl) TE_int h4))) (TE_bin TE_int (TE_idx (tv 33 rfl) TE_int idx_t0) (bin_mul (.inl (by decide)))) cmp_nei rfl) TB_or_nil)))
    (by rw [sumC_tab, R.six, show ((6 * tt.rounds : Nat) : Int) = 6 * (tt.rounds : Int) from rfl, BEq.rfl]; rfl)) TS_nil) u
end
end Mine
end
section
open PySem PySem.W PyProof.Rows
namespace Mine
theorem count_nl (l : List Nat) : Txt.count (mkS l) ⟨#[10]⟩ = ((nls l : Nat) : Int) := by
  rw [count_is, mkS_list]
  show cnt 10 l = _
  induction l with
  | nil => rfl
  | cons c l ih =>
    rw [cnt_cons, ih, nls_cons]
    unfold nl
    by_cases h : c = 10
    · rw [if_pos h, if_pos h]; omega
    · rw [if_neg h, if_neg h]; omega
section
variable {C : Cx} {X : Lw} {x : Lx} {σ : St} {t : Int × Int} {m a sn ln n2 : Nat} {ls : List (List Nat)} {tt : Tot} {pre tx : List Nat}
theorem lw_30 (Q : Pr C) (hx : x.ct = Q.lx) (hL : X.L = x.L) (hq : X.q = .str (mkS tx)) (hn : x.Nd) (hpre : ∀ c ∈ pre, isWs c = true) (XX : LX x ln (pre ++ txt n2 [endW] 12) [] σ) (hln : ln + nls (pre ++ txt n2 [endW] 12) = 1 + nls tx) :
    ∃ σ', Fm [x.L, x.IT] σ σ' ∧ ∀ {A : Around} {env : Env}, TR (.fn C A 8 fd16 env) (X.w t a m ls sn tt []) (execs (lwB 30) env) σ (.bool true) σ' := by
  rw [show txt n2 [endW] 12 = spell endW (n2 / 13) ++ [] from rfl] at XX hln
  obtain ⟨σ1, ln1, g1, X1, F1, l1⟩ := XX.get' Q hx hn hpre (List.cons_ne_nil _ _) (by decide)
  rw [List.append_nil] at X1 l1
  obtain ⟨σ2, g2, X2, F2⟩ := X1.fin Q hx hn (left_ws _)
  refine ⟨σ2, F1.trans F2, fun {A env} => TR_stop (TR_ret (TE_and_t (TE.val (TE_cmp (TE_mcall g1 (Nat.le_of_ble_eq_true rfl) (hx ▸ Q.X.gf) Q.X.gt.isFn rfl (TE.val (tv 17 rfl) (congrArg D.loc hL)) XX.l Lx.no_get an) TE_str cmp_eqs rfl) (congrArg D.bool BEq.rfl))
    (TE_and_t (TE.val (TE_cmp (TE_mcall g2 (Nat.le_of_ble_eq_true rfl) (hx ▸ Q.X.gf) Q.X.gt.isFn rfl (TE.val (tv 17 rfl) (congrArg D.loc hL)) X1.l Lx.no_get an) TE_str cmp_eqs rfl) (congrArg D.bool BEq.rfl))
    (TE_and1 (TE.val (TE_cmp (TE_attr (d := .int ((ln1 + nls (left (n2 / 13)) : Nat) : Int)) (hx ▸ Q.X.ln) (TE.val (tv 17 rfl) (congrArg D.loc hL)) X2.l (by kernel_rfl)) (TE_bin TE_int (TE_count (y := ⟨#[10]⟩) (TE.val (tv 16 rfl) hq) (a1 TE_str)) bin_add) cmp_eqi rfl) (congrArg D.bool (beq_iff_eq.mpr (by rw [count_nl]; omega))))))))⟩
end
end Mine
end
section
open PySem PySem.W PyProof.Rows
namespace Mine
theorem insR_eq (a : Nat) : ∀ (i : Nat) (l : List Nat), insN l i a = insR a i l
  | 0, _ => rfl
  | _ + 1, [] => rfl
  | i + 1, h :: t => congrArg (h :: ·) (insR_eq a i t)
theorem ord_eq (n : Nat) : ordN n ordP = ordR (n % 720) := by
  show insN (insN (insN (insN (insN (insN [] (n / 1 % 1) 0) (n / 1 % 2) 1) (n / 2 % 3) 2) (n / 6 % 4) 3) (n / 24 % 5) 4) (n / 120 % 6) 5 = insR 5 (n % 720 / 120 % 6) (insR 4 (n % 720 / 24 % 5) (insR 3 (n % 720 / 6 % 4) (insR 2 (n % 720 / 2 % 3) (insR 1 (n % 720 % 2) [0]))))
  rw [show n / 1 % 1 = 0 from Nat.mod_one _, show n / 1 % 2 = n % 720 % 2 by omega, show n / 2 % 3 = n % 720 / 2 % 3 by omega, show n / 6 % 4 = n % 720 / 6 % 4 by omega, show n / 24 % 5 = n % 720 / 24 % 5 by omega, show n / 120 % 6 = n % 720 / 120 % 6 by omega]
  simp only [insR_eq]; rfl
theorem nbR_eq (aw : List (Nat × Nat)) (i j : Nat) (hj : j ≠ i) : (nbR aw i).contains j = (aw.contains (i, j) || aw.contains (j, i)) := by
  induction aw with
  | nil => rfl
  | cons p aw ih =>
    obtain ⟨x, y⟩ := p
    show (iteR (Nat.beq x i) (y :: nbR aw i) (iteR (Nat.beq y i) (x :: nbR aw i) (nbR aw i))).contains j = _
    rw [List.contains_cons, List.contains_cons, iteR_eq, iteR_eq, beq_nat, beq_nat]
    show _ = ((i == x && j == y) || aw.contains (i, j) || ((j == x && i == y) || aw.contains (j, i)))
    have e1 : (i == x) = (x == i) := BEq.comm
    have e2 : (i == y) = (y == i) := BEq.comm
    rw [e1, e2]
    by_cases hx : x = i
    · subst hx
      rw [if_pos BEq.rfl, List.contains_cons, ih, BEq.rfl, beq_eq_false_iff_ne.mpr hj]
      cases j == y <;> cases aw.contains (x, j) <;> cases aw.contains (j, x) <;> rfl
    · rw [if_neg fun q => hx (eq_of_beq q), beq_eq_false_iff_ne.mpr hx]
      by_cases hy : y = i
      · subst hy
        rw [if_pos BEq.rfl, List.contains_cons, ih, BEq.rfl]
        cases j == x <;> cases aw.contains (y, j) <;> cases aw.contains (j, y) <;> rfl
      · rw [if_neg fun q => hy (eq_of_beq q), ih, beq_eq_false_iff_ne.mpr hy]
        cases j == x <;> rfl
theorem rowC_eq (A i : Nat) : ∀ (js acc : List Nat) (k : List Nat → Bool), rowC A i js acc k = k ((js.filter fun j => Nat.beq (Nat.land (Nat.shiftRight A (Nat.add (Nat.mul 6 i) j)) 1) 1).reverse ++ acc)
  | [], _, _ => rfl
  | j :: js, acc, k => by
    show iteR (Nat.beq (Nat.land (Nat.shiftRight A (Nat.add (Nat.mul 6 i) j)) 1) 1) (rowC A i js (j :: acc) k) (rowC A i js acc k) = _
    rw [iteR_eq, rowC_eq A i js, rowC_eq A i js, List.filter_cons]
    split
    · rw [List.reverse_cons, List.append_assoc]; rfl
    · rfl
theorem rowAw_eq (nb : List Nat) (i : Nat) : ∀ (js acc : List Nat) (k : List Nat → Bool), rowAw nb i js acc k = k ((js.filter fun j => !(j == i) && !nb.contains j).reverse ++ acc)
  | [], _, _ => rfl
  | j :: js, acc, k => by
    show iteR (Nat.beq j i) (rowAw nb i js acc k) (iteR (memR j nb) (rowAw nb i js acc k) (rowAw nb i js (j :: acc) k)) = _
    rw [iteR_eq, iteR_eq, rowAw_eq nb i js, rowAw_eq nb i js, List.filter_cons, beq_nat, memR_eq]
    cases j == i <;> cases nb.contains j <;> first | rfl | (show k _ = k ((j :: _).reverse ++ acc); rw [List.reverse_cons, List.append_assoc]; rfl)
theorem tie_row (aw : List (Nat × Nat)) (i : Nat) : ([5, 4, 3, 2, 1, 0].filter fun j => !(j == i) && !(nbR aw i).contains j).reverse ++ [] = tieL aw i := by
  have e : (fun j => !(j == i) && !(nbR aw i).contains j) = fun j => !(j == i) && (!aw.contains (i, j) && !aw.contains (j, i)) := funext fun j => by
    by_cases hj : j = i
    · rw [beq_iff_eq.mpr hj]; rfl
    · rw [nbR_eq aw i j hj, Bool.not_or]
  rw [List.append_nil, e, ← List.filter_reverse]; rfl
noncomputable def rowA (A i : Nat) : List Nat := ([5, 4, 3, 2, 1, 0].filter fun j => Nat.beq (Nat.land (Nat.shiftRight A (Nat.add (Nat.mul 6 i) j)) 1) 1).reverse ++ []
noncomputable def tabA (A : Nat) : Nat → List Nat := nthR [rowA A 0, rowA A 1, rowA A 2, rowA A 3, rowA A 4, rowA A 5]
theorem tabC_eq (A : Nat) (k : (Nat → List Nat) → Bool) : tabC A k = k (tabA A) :=
  (rowC_eq ..).trans ((rowC_eq ..).trans ((rowC_eq ..).trans ((rowC_eq ..).trans ((rowC_eq ..).trans (rowC_eq ..)))))
noncomputable def rowsR (aw : List (Nat × Nat)) (T : Nat → List Nat) (is : List Nat) : Bool := fR (fun i ih => (fun nb => rowAw nb i [5, 4, 3, 2, 1, 0] [] fun row => iteR (eqR row (T i)) (@List.rec Nat (fun u0 => Bool) false (fun u0 u0 u0 => ih) row) false) (nbR aw i)) true is
theorem rows_ok {aw : List (Nat × Nat)} {T : Nat → List Nat} : ∀ {is : List Nat}, rowsR aw T is = true → ∀ i ∈ is, tieL aw i = T i ∧ T i ≠ []
  | [], _, i, m => nomatch m
  | j :: is, h, i, m => by
    have h : rowAw (nbR aw j) j [5, 4, 3, 2, 1, 0] [] (fun row => iteR (eqR row (T j)) (@List.rec Nat (fun u0 => Bool) false (fun u0 u0 u0 => rowsR aw T is) row) false) = true := h
    rw [rowAw_eq, tie_row, iteR_eq, eqR_eq] at h
    split at h
    · rename_i h1
      have h1 := eq_of_beq h1
      have h2 : tieL aw j ≠ [] ∧ rowsR aw T is = true := by
        revert h
        cases tieL aw j with
        | nil => exact fun h => nomatch h
        | cons _ _ => exact fun h => ⟨List.cons_ne_nil _ _, h⟩
      rcases List.mem_cons.mp m with rfl | m
      · exact ⟨h1, h1 ▸ h2.1⟩
      · exact rows_ok h2.2 i m
    · cases h
theorem away_rings (a b c d e f : Nat) : ∀ r < 5, awayL [a, b, c, d, e, f] r = ringsO a b c d e f r
  | 0, _ => rfl
  | 1, _ => rfl
  | 2, _ => rfl
  | 3, _ => rfl
  | 4, _ => rfl
theorem mem_grs {A : Nat} : ∀ {L : List (List Nat)}, fR (fun l ih => iteR (memR A l) true ih) false L = true → ∃ l, l ∈ L ∧ A ∈ l
  | l :: L, h => by
    have h : iteR (memR A l) true (fR (fun l ih => iteR (memR A l) true ih) false L) = true := h
    rw [iteR_eq, memR_eq] at h
    split at h
    · rename_i h1; exact ⟨l, .head _, List.contains_iff_mem.mp h1⟩
    · obtain ⟨m, h1, h2⟩ := mem_grs h; exact ⟨m, .tail _ h1, h2⟩
theorem ite_and {a b : Bool} (h : iteR a b false = true) : a = true ∧ b = true := by
  cases a with
  | false => cases h
  | true => exact ⟨rfl, h⟩
theorem six_ok {p : Nat → Bool} (h : iteR (p 0) (iteR (p 1) (iteR (p 2) (iteR (p 3) (iteR (p 4) (p 5) false) false) false) false) false = true) : ∀ a < 6, p a = true := by
  obtain ⟨h0, h⟩ := ite_and h
  obtain ⟨h1, h⟩ := ite_and h
  obtain ⟨h2, h⟩ := ite_and h
  obtain ⟨h3, h⟩ := ite_and h
  obtain ⟨h4, h5⟩ := ite_and h
  intro a ha
  match a, ha with
  | 0, _ => exact h0
  | 1, _ => exact h1
  | 2, _ => exact h2
  | 3, _ => exact h3
  | 4, _ => exact h4
  | 5, _ => exact h5
structure TieOk (n r : Nat) (T : Nat → List Nat) : Prop where
  e : ∀ i < 6, tieL (awayL (ordN n ordP) r) i = T i
  ok : TOk T
  run : ∀ a < 6, chkR T a = true
theorem tab_ok (n : Nat) {r : Nat} (hr : r < 5) : ∃ T, TieOk n r T := by
  have h := all_codes (Nat.mod_lt n (show 0 < 720 by decide)) hr
  have hl := ord_len n 6 (Nat.le_refl _)
  rw [show ordP.take 6 = ordP from rfl] at hl
  have ho := ord_eq n
  have key : ∀ o : List Nat, o.length = 6 → ordN n ordP = o → ordR (n % 720) = o → ∃ T, TieOk n r T := fun o h6 e1 e2 => by
    unfold okC at h
    rw [e2] at h
    match o, h6 with
    | [a, b, c, d, e, f], _ =>
      have h : iteR (fR (fun l ih => iteR (memR (codeR (ringsO a b c d e f r)) l) true ih) false grs) (tabC (codeR (ringsO a b c d e f r)) fun T => rowsR (ringsO a b c d e f r) T [0, 1, 2, 3, 4, 5]) false = true := h
      rw [← away_rings a b c d e f r hr, ← e1] at h
      generalize codeR (awayL (ordN n ordP) r) = A at h
      rw [iteR_eq, tabC_eq] at h
      split at h
      · rename_i h1
        obtain ⟨l, h1, h2⟩ := mem_grs h1
        have hrow := rows_ok h
        have hrow : ∀ i < 6, tieL (awayL (ordN n ordP) r) i = tabA A i ∧ tabA A i ≠ [] := fun i hi => hrow i (by
          match i, hi with
          | 0, _ => decide
          | 1, _ => decide
          | 2, _ => decide
          | 3, _ => decide
          | 4, _ => decide
          | 5, _ => decide)
        refine ⟨tabA A, fun i hi => (hrow i hi).1, ⟨fun i hi j m => ?_, fun i hi => ?_, fun i hi => (hrow i hi).2, fun i hi => ?_⟩, fun a ha => ?_⟩
        · rw [← (hrow i hi).1] at m
          exact List.mem_range.mp (List.mem_filter.mp m).1
        · rw [← (hrow i hi).1]
          exact List.length_filter_le _ (List.range 6)
        · rw [← (hrow i hi).1]
          exact List.Pairwise.filter _ List.pairwise_lt_range
        · have := chkGs_ok (all_graphs l h1) A h2
          unfold chkG at this
          rw [tabC_eq] at this
          exact six_ok this a ha
      · cases h
  exact key _ hl rfl ho.symm
end Mine
end
section
open PySem PySem.W PyProof.Rows
namespace Mine
theorem law_c {C : Cx} {P : Addr} {X : Lw} {x : Lx} {σ : St} {n2 ln : Nat} {pre tx : List Nat} (Q : Pr C) (hl0 : LamAt C 0 lam0) (hb : C.h0.BuiltinsAt C.mg P) (H : XOk X) (hd : X.ds.length = 12) (hrun : ∀ a < 6, chkR X.T a = true) (hx : x.ct = Q.lx) (hL : X.L = x.L) (hn : x.Nd) (hq : X.q = .str (mkS tx)) (hc : ∀ n ∈ x.cells, 2 ≤ n) (h0 : ∃ q l, σ[0]? = some (.tab q l)) (h1 : σ[1]? = some (.tab P []))
    (hpre : ∀ c ∈ pre, isWs c = true) (XX : LX x ln (pre ++ txt n2 [endW] 12) [] σ) (hln : ln + nls (pre ++ txt n2 [endW] 12) = 1 + nls tx) : EN C P (X.b []) 17 σ := by
  have ht := turnV_ok X.ds
  have ha := first_lt (turnV X.ds) X.T X.v
  obtain ⟨tt, R⟩ := chk_run H.T ha (hrun _ ha)
  have I := wbI_of H ha
  have F1 : Fm [1] σ (σ.set 1 (.tab P lnL)) := Fm.set _ _ (.inl (.head _))
  have F2 : Fm [1] σ (σ.set 1 (.tab P lnL) ++ [.ins Q.tc (tcF (ordD (turnV X.ds).1 (turnV X.ds).2))]) := F1.trans (Fm.app _ _ _)
  have F3 : Fm [1] σ (σ.set 1 (.tab P lnL) ++ [.ins Q.tc (tcF (ordD (turnV X.ds).1 (turnV X.ds).2))] ++ [.lst []]) := F2.trans (Fm.app _ _ _)
  have off : ∀ n ∈ x.cells, n ∉ [1] := fun n m q => by have := hc n m; rw [List.mem_singleton.mp q] at this; exact absurd this (by decide)
  have L3 := XX.frame F3 off
  have sz : (σ.set 1 (.tab P lnL) ++ [AO.ins Q.tc (tcF (ordD (turnV X.ds).1 (turnV X.ds).2))]).length = σ.length + 1 := by rw [List.length_append, List.length_set]; rfl
  have low : ∀ n ∈ x.cells, n < σ.length := fun n m => by
    rcases List.mem_cons.mp m with rfl | m
    · exact at_lt XX.l
    · rcases List.mem_cons.mp m with rfl | m
      · exact at_lt XX.i
      · rcases List.mem_cons.mp m with rfl | m
        · exact at_lt XX.p
        · cases List.mem_singleton.mp m; exact at_lt XX.f
  have hsn : (σ.set 1 (.tab P lnL) ++ [AO.ins Q.tc (tcF (ordD (turnV X.ds).1 (turnV X.ds).2))]).length ∉ x.cells := fun m => by
    have := low _ m
    rw [sz] at this; omega
  have s1 : 1 < σ.length := at_lt h1
  refine lw_17 Q hd (lw_18 Q hl0 hb ht H.T h1 (lw_19 Q (lw_20 Q (lw_22 Q ht at_len (lw_23 Q ht at_len (lw_24 Q H ha (lw_26 (lw_27 Q H I hx hL hn hsn R.r L3 at_len fun σ' L' F' k' => lw_28 Q I.z R (lw_29 Q k' R ?_)))))))))
  obtain ⟨σ'', F'', go⟩ := lw_30 Q hx hL hq hn hpre L' hln
  obtain ⟨q, l, h0⟩ := h0
  have n0 : ∀ k < 2, k ∉ [x.L, x.IT] := fun k hk m => by
    have : 2 ≤ k := (List.mem_cons.mp m).elim (fun e => e ▸ hc _ (.head _)) fun m => List.mem_singleton.mp m ▸ hc _ (.tail _ (.head _))
    omega
  have n1 : ∀ k < 2, k ∉ [(σ.set 1 (.tab P lnL) ++ [AO.ins Q.tc (tcF (ordD (turnV X.ds).1 (turnV X.ds).2))]).length] := fun k hk m => by
    have := List.mem_singleton.mp m
    rw [sz] at this; omega
  exact ⟨σ'', ⟨⟨q, l, F''.at (F'.at (F3.at h0 (by decide)) (n1 0 (by decide))) (n0 0 (by decide))⟩, ⟨P, lnL, F''.at (F'.at (at_app (at_app (List.getElem?_set_self s1))) (n1 1 (by decide))) (n0 1 (by decide))⟩⟩, fun u0 => go⟩
end Mine
end
section
open PySem PySem.W PyProof.Rows
namespace Mine
theorem txt_len (n6 : Nat) : ∀ (ws : List (List Nat)) (i : Nat), (∀ w ∈ ws, w.length ≤ 20) → (txt n6 ws i).length ≤ 44 * ws.length
  | [], _, _ => Nat.zero_le _
  | w :: ws, i, h => by
    have h1 := spell_len w (n6 / (i + 1))
    have h2 := h w (.head _)
    have h3 := txt_len n6 ws (i + 1) fun x m => h x (.tail _ m)
    show (spell w (n6 / (i + 1)) ++ txt n6 ws (i + 1)).length ≤ 44 * (ws.length + 1)
    rw [List.length_append]
    omega
theorem tie_eq {T T' : Nat → List Nat} (h : ∀ i < 6, T i = T' i) : tieD T = tieD T' := congrArg D.lst (List.map_congr_left fun i m => congrArg (fun l => D.lst (natD l)) (h i (List.mem_range.mp m)))
theorem wrd_len {T : Nat → List Nat} {s : Nat → Nat} {low n : Nat} (hT : TOk T) (hl : low < 28) : ∀ x ∈ wrdF s T low n (List.range 6) ++ [endW], x.length ≤ 20 := fun x m => by
  rcases List.mem_append.mp m with m | m
  · obtain ⟨i, mi, m⟩ := List.mem_flatMap.mp m
    rcases List.mem_cons.mp m with rfl | m
    · exact Nat.le_of_ble_eq_true rfl
    · cases List.mem_singleton.mp m
      exact Nat.le_trans (octN_ok hT hl (List.mem_range.mp mi)).2.1 (by decide)
  · cases List.mem_singleton.mp m; decide
noncomputable def stL (p pL ct : Addr) (tx : List Nat) : St := [.tab p lnS, .tab pL [], .dead, .dead, .dead, .dead, .dead, .dead, .dead, .dead] ++ lexT ct 10 tx ++ [.ds []]
theorem stL_lx (p pL ct : Addr) (tx : List Nat) : LX (lexX ct 10) 1 tx [] (stL p pL ct tx) := ⟨rfl, rfl, rfl, rfl⟩
theorem law_run {C : Cx} {P : Addr} (Q : Pr C) (hl0 : LamAt C 0 lam0) (hl1 : LamAt C 1 lam1) (F0 : Meth C Q.lx "__init__" (pM 5 0).params (pM 5 0).scope (pM 5 0).body Q.l0) (hb : C.h0.BuiltinsAt C.mg P) (L : List Int) (hL : L.length ≤ 63) :
    EN C P (lwR [some (.lst (L.map .int))]) 0 [.tab Q.p12 [], .tab P []] := by
  have hn := numL_len L
  generalize hns : numL L = ns at hn
  have hd : (drawL ns).length = 12 := by rw [draw_len, hn]
  generalize hds : drawL ns = ds at hd
  have hl : ds.getD 5 0 % 28 < 28 := Nat.mod_lt _ (by decide)
  generalize hlow : ds.getD 5 0 % 28 = low at hl
  have hr : ds.getD 7 0 % 5 < 5 := Nat.mod_lt _ (by decide)
  generalize hrr : ds.getD 7 0 % 5 = r at hr
  obtain ⟨T, hT⟩ := tab_ok (ns.getD 0 0) hr
  have ho := ord_len (ns.getD 0 0) 6 (Nat.le_refl _)
  rw [show ordP.take 6 = ordP from rfl] at ho
  have te := tie_eq hT.e
  have hal := away_len (ordN (ns.getD 0 0) ordP) hr
  generalize hoo : ordN (ns.getD 0 0) ordP = o at ho te hal
  have hw := wrd_len (s := sgnF (ds.getD 4 0)) (n := ns.getD 2 0) hT.ok hl
  have hWl : (wrdF (sgnF (ds.getD 4 0)) T low (ns.getD 2 0) (List.range 6)).length = 12 := wrdF_len _
  have htx : txtL (wrdF (sgnF (ds.getD 4 0)) T low (ns.getD 2 0) (List.range 6) ++ [endW]) (ns.getD 2 0) = txt (ns.getD 2 0) (wrdF (sgnF (ds.getD 4 0)) T low (ns.getD 2 0) (List.range 6) ++ [endW]) 0 := txt_zip _ _ 0
  have htl := txt_len (ns.getD 2 0) (wrdF (sgnF (ds.getD 4 0)) T low (ns.getD 2 0) (List.range 6) ++ [endW]) 0 hw
  rw [List.length_append, hWl, ← htx] at htl
  generalize hW : wrdF (sgnF (ds.getD 4 0)) T low (ns.getD 2 0) (List.range 6) = W at hw hWl htx htl
  generalize htt : txtL (W ++ [endW]) (ns.getD 2 0) = tx at htx htl
  generalize hX : (⟨.lst (L.map .int), .lst (knownL.map .str), ringD r, awD (awayL o r), .lst (wrdD W), .str (mkS tx), ns, ds, o, ds.getD 4 0, low, T, 12, 14⟩ : Lw) = X
  have H : XOk X := by rw [← hX]; exact ⟨hl, hT.ok⟩
  have xT : X.T = T := by rw [← hX]
  have xd : X.ds = ds := by rw [← hX]
  have xq : X.q = .str (mkS tx) := by rw [← hX]
  have xL : X.L = 12 := by rw [← hX]
  have xb : X.bk = 14 := by rw [← hX]
  have xW : wrdF (sgnF X.v) X.T X.low (ns.getD 2 0) (List.range 6) = W := by rw [← hX]; exact hW
  have E16 : EN C P (X.r none none none none) 16 (stL Q.p12 P Q.lx tx) :=
    lw_16 (x := lexX Q.lx 10) (n2 := ns.getD 2 0) (tot := 1 + nls tx) (ln := 1) Q rfl (lexX_nd Q.lx 10) xL H (by rw [xb]; exact (by decide : 14 ∉ [12, 10, 13, 11])) ⟨rfl, (fun u0 h => nomatch h), by rw [xW]; exact (htx ▸ stL_lx Q.p12 P Q.lx tx : LX (lexX Q.lx 10) 1 (txt (ns.getD 2 0) (W ++ [endW]) 0) [] (stL Q.p12 P Q.lx tx)), by rw [xb]; rfl, by rw [xW]; exact congrArg (fun l => 1 + nls l) htx.symm⟩
      fun σ' pre ln' hpre XX hln F => law_c Q hl0 hb H (by rw [xd]; exact hd) (by rw [xT]; exact hT.run) rfl xL (lexX_nd Q.lx 10) xq (by decide : ∀ n ∈ [12, 10, 13, 11], 2 ≤ n) ⟨_, _, F.at rfl (by rw [xb]; exact (by decide : 0 ∉ [12, 10, 14]))⟩ (F.at rfl (by rw [xb]; exact (by decide : 1 ∉ [12, 10, 14]))) hpre XX hln
  rw [← hX] at E16
  refine E16.from fun u => lw_0 Q hL ?_
  rw [hns]
  refine lw_1 Q hn ?_
  rw [hds]
  refine lw_2 Q hd ?_
  rw [hlow]
  refine lw_4 Q hl (lw_6 Q hn ?_)
  rw [hoo]
  refine lw_8 (v := ds.getD 4 0) (r := r) (f := .none) Q hd hrr.symm (lw_9 Q ho hr (lw_10 Q hal ?_))
  rw [te]
  refine lw_12 (v := ds.getD 4 0) (T := T) Q hT.ok hn hl rfl ?_
  rw [hW]
  refine lw_13 (n := 3) Q hn (by rw [hWl]; decide) (fun x m => Nat.le_trans (hw x m) (by decide)) rfl ?_
  rw [htt]
  exact lw_14 (t := 0) Q hl1 F0 (Nat.le_trans htl (by decide)) rfl (lw_15 u)
end Mine
end
section
open PySem PySem.W PyProof.Rows
namespace Mine
noncomputable def adrs : List Addr := (List.range 150).filter fun a => !(a == 122 || a == 146)
noncomputable def fragH (h : Heap) : Frag := adrs.filterMap fun a => (h.get? a).map fun o => (a, o)
theorem frag_in {h : Heap} {a : Addr} {o : Obj} (e : (fragH h).lookup a = some o) : (a ≠ 122 ∧ a ≠ 146) ∧ h.get? a = some o := by
  obtain ⟨b, hb, e⟩ := List.mem_filterMap.mp (mem_of_lookupK e)
  obtain ⟨o', e1, e2⟩ := Option.map_eq_some_iff.mp e
  cases e2
  have hf := (List.mem_filter.mp hb).2
  exact ⟨⟨(fun q => by rw [q] at hf; cases hf), (fun q => by rw [q] at hf; cases hf)⟩, e1⟩
noncomputable def isNoneV : Value → Bool
  | .none => true
  | _ => false
noncomputable def refOf : Value → Option Addr
  | .ref a => some a
  | _ => none
noncomputable def intOf : Value → Option Int
  | .int i _ => some i
  | _ => none
noncomputable def strOf : Value → Option Str
  | .str i _ => some i
  | _ => none
noncomputable def fdOf : Data → Option FuncData
  | .func fd => some fd
  | _ => none
noncomputable def esOf : Data → Option (Array DictEntry)
  | .dict es _ => some es
  | _ => none
noncomputable def fdK (K : Frag) (fa : Addr) : Option FuncData := (K.lookup fa).bind fun o => fdOf o.data
noncomputable def fdB (K : Frag) (fd : FuncData) : List Bool := [Nat.beq fd.globals mainGlobals, Nat.beq fd.builtins builtinsNs, fd.closure.isEmpty, isNoneV fd.defaults, (refOf fd.code).isSome, codeIn K fd.code fd.qualname]
noncomputable def fnOkB (K : Frag) (fa : Addr) : Bool := (fdK K fa).any fun fd => (fdB K fd).all id
noncomputable def fnV (K : Frag) (fa : Addr) : Option (FuncBody × Arguments × Scope) := (fdK K fa).map fun fd => (fd.body, fd.params, fd.scope)
noncomputable def codeOf (K : Frag) (fa : Addr) : Option Addr := (fdK K fa).bind fun fd => refOf fd.code
noncomputable def bltB (K : Frag) (p : Str × Value) : Bool := [nsIn K mainGlobals p.1 == some none, bootBuiltins p.1 == some p.2, !(p.1 == "__name__")].all id
noncomputable def glbB (K : Frag) (p : Str × Addr) : Bool := nsIn K mainGlobals p.1 == some (some (.ref p.2))
noncomputable def newB (K : Frag) (c fa : Addr) : Bool := [keepIn K (.ref c), makesIn K c, findIn K (.ref c) "__init__" == some (some (.ref fa)), typeIn K (.ref fa) == some (.type "function")].all id
noncomputable def mthB (K : Frag) (c : Addr) (a : Str) (fa : Addr) : Bool :=
  [findIn K (.ref c) "__getattribute__" == some (some (.builtin "object.__getattribute__")), findIn K (.ref c) "__getattr__" == some none, findIn K (.ref c) a == some (some (.ref fa)), typeIn K (.ref fa) == some (.type "function")].all id
noncomputable def bndB (K : Frag) (c : Addr) (a : Str) (f : Addr) : Bool :=
  [mthB K c a f, hasDictIn K c, specialIn K (.ref f) "__get__" == some (some (.builtin "function.__get__")), takesIn K (.ref f) == some false, !(copiedNames.contains a)].all id
noncomputable def insB (K : Frag) (c : Addr) (a : Str) : Bool :=
  [findIn K (.ref c) "__getattribute__" == some (some (.builtin "object.__getattribute__")), hasDictIn K c, (match findIn K (.ref c) a with | some r => noGet K r | none => false), findIn K (.ref c) "__setattr__" == some (some (.builtin "object.__setattr__")), plainOver K c, takerIn K c a == some none].all id
noncomputable def entB (e : DictEntry) (p : Int × Str) : Bool := intOf e.key == some p.1 && (e.hash == hashInt p.1 && strOf e.val == some p.2)
noncomputable def glE : List DictEntry → List (Int × Str) → Bool
  | [], l => l.isEmpty
  | e :: es, l => match l with
    | [] => false
    | p :: l => entB e p && glE es l
noncomputable def glB (K : Frag) (a : Addr) (l : List (Int × Str)) : Bool := ((K.lookup a).bind fun o => esOf o.data).any fun es => glE es.toList l
noncomputable def bis : List (Str × Value) := [("range", .type "range"), ("enumerate", .type "enumerate"), ("list", .type "list"), ("tuple", .type "tuple"), ("int", .type "int"), ("iter", .builtin "iter"), ("len", .builtin "len"), ("sum", .builtin "sum"), ("min", .builtin "min"), ("zip", .type "zip"), ("next", .builtin "next"), ("ord", .builtin "ord"), ("chr", .builtin "chr"), ("hex", .builtin "hex"), ("isinstance", .builtin "isinstance")]
noncomputable def glbs : List (Str × Addr) := [("add_func_stats", 106), ("add_callers", 113), ("count_calls", 120), ("COMPILER_FLAG_NAMES", 15), ("pretty_flags", 22), ("_parse_varint", 29), ("_law_stream", 127), ("_law_spelled", 132), ("_law_octets", 137), ("_law_turned", 144), ("law", 149), ("TupleComp", 95), ("_netrclex", 67)]
noncomputable def fnas : List Addr := [106, 113, 120, 22, 29, 127, 132, 137, 144, 149, 85, 92, 43, 50, 57, 64]
noncomputable def fo (t : FnT) : Option (FuncBody × Arguments × Scope) := some (.stmts t.body, t.params, t.scope)
noncomputable def fnsL : List (Option (FuncBody × Arguments × Scope)) := [fo (pT 8), fo (pT 9), fo (pT 10), fo (pT 2), fo (pT 3), fo (pT 12), fo (pT 13), fo (pT 14), fo (pT 15), fo (pT 16), fo (pM 7 0), fo (pM 7 1), fo (pM 5 0), fo (pM 5 1), fo (pM 5 2), fo (pM 5 3)]
noncomputable def chkL (K : Frag) : List Bool :=
  [bis.all (bltB K), glbs.all (glbB K), fnas.all (fnOkB K), glB K 15 flagT, newB K 95 85, newB K 67 43, mthB K 95 "compare" 92, mthB K 67 "_read_char" 50, mthB K 67 "get_token" 57, mthB K 67 "push_token" 64, bndB K 67 "_read_char" 50,
   insB K 95 "comp_select_list", insB K 67 "lineno", insB K 67 "instream", insB K 67 "whitespace", insB K 67 "pushback", codeHdIn K 126 122, codeHdIn K 148 146, codeOf K 127 == some 126, codeOf K 149 == some 148]
structure Seen (h : Heap) : Prop where
  c : (chkL (fragH h)).all id = true
  t : [122, 146].map h.get? = [some (tabObj #[]), some (tabObj #[])]
  f : fnas.map (fnV (fragH h)) = fnsL
  d : ((fragH h).lookup 15).map (fun o => (o.cls, o.dict, o.slots)) = some (.type "dict", none, #[])
inductive Says (h : Heap) : Prop
  | mk (h1 : Heap) (S : Seen h1) (k : ∀ b o, h1.get? b = some o → h.get? b = some o)
noncomputable def hk : Hook where
  α := (Bool × List (Option Obj)) × List (Option (FuncBody × Arguments × Scope)) × Option (Value × Option Addr × Array (Option Value))
  obs s := (((chkL (fragH s.heap)).all id, [122, 146].map s.heap.get?), fnas.map (fnV (fragH s.heap)), ((fragH s.heap).lookup 15).map (fun o => (o.cls, o.dict, o.slots)))
  val _ := ((true, [some (tabObj #[]), some (tabObj #[])]), fnsL, some (.type "dict", none, #[]))
  says _ h := Says h
  of _ s e := ⟨s.heap, ⟨congrArg (·.1.1) e, congrArg (·.1.2) e, congrArg (·.2.1) e, congrArg (·.2.2) e⟩, fun u0 u0 e => e⟩
  keeps _ _ _ x k := let ⟨h1, S, k1⟩ := x; ⟨h1, S, fun b o e => k b o (k1 b o e)⟩
theorem all_get {α : Type} {l : List α} {p : α → Bool} (h : l.all p = true) (i : Nat) {x : α} (e : l[i]? = some x) : p x = true := List.all_eq_true.mp h x (List.mem_of_getElem? e)
end Mine
end
section
open PySem PySem.W PyProof.Rows
set_option maxHeartbeats 0
namespace Mine
noncomputable def q3 : Program := PySem.W.view PySem.Challenge.rw_xc0017_03.prog [1, 2, 3, 5, 7, 8, 9, 10, 12, 13, 14, 15, 16]
theorem left3 : LeftO PySem.Challenge.rw_xc0017_03.row.toRowW.prog q3 [Str.ofString "COMPILER_FLAG_NAMES"] (fun s => xlAt q3 [] s && recOk (RowW.records PySem.Challenge.rw_xc0017_03.row.toRowW) s) (Hook.obs hk) (Hook.val hk) 2264 :=
  LeftO.of_split "special-get-raises" (fun w => by kernel_rfl)
end Mine
end
section
open PySem PySem.W PyProof.Rows
namespace Mine
noncomputable def tbs : List (Addr × Addr) := [(126, 122), (148, 146)]
structure HdOk (h1 h : Heap) (mg mb : Str → Option Value) : Prop where
  S : Seen h1
  k : ∀ b o, h1.get? b = some o → h.get? b = some o
  g : h.Ns mainGlobals mg
  b : h.Ns builtinsNs mb
  bt : ∀ x : Str, x ≠ "__name__" → mb x = bootBuiltins x
  lim : h.NoLimit
  bm : ∃ bm ob, mg "__builtins__" = some (.ref bm) ∧ bm ≠ builtinsNs ∧ h.get? bm = some ob ∧ ob.cls = .type "module" ∧ ob.dict = some builtinsNs ∧ ob.data = .plain
section
variable {h1 h : Heap} {mg mb : Str → Option Value} {prog : Program} {w : World}
theorem Seen.i (S : Seen h1) (i : Nat) {b : Bool} (e : (chkL (fragH h1))[i]? = some b) : b = true := all_get (p := id) S.c i e
theorem HdOk.X (H : HdOk h1 h mg mb) : (fragH h1).In h := fun a o e => H.k a o (frag_in e).2
theorem HdOk.T (H : HdOk h1 h mg mb) : TabsAt tbs h := fun q m => by
  have t := H.S.t
  have t0 : h1.get? 122 = some (tabObj #[]) := Option.some.inj (congrArg (·[0]?) t)
  have t1 : h1.get? 146 = some (tabObj #[]) := Option.some.inj (congrArg (·[1]?) t)
  rcases List.mem_cons.mp m with rfl | m
  · exact ⟨codeHd_of_K H.X (H.S.i 16 rfl), H.k _ _ t0⟩
  · cases List.mem_singleton.mp m
    exact ⟨codeHd_of_K H.X (H.S.i 17 rfl), H.k _ _ t1⟩
noncomputable def cx (prog : Program) (w : World) (H : HdOk h1 h mg mb) : Cx where
  prog := prog
  w := w
  h0 := ghostOf h tbs
  LT k i := k = 0 ∧ i = lam0 ∨ k = 1 ∧ i = lam1
  rc := 50
  mg := mg
  mb := mb
  glob := ghost_ns H.T H.g
  bltn := ghost_ns H.T H.b
  K := fragH h1
  inK a o e := ghost_ne (H.X a o e) fun m => by
    have := (frag_in e).1
    rcases List.mem_cons.mp m with q | q
    · exact this.1 q
    · exact this.2 (List.mem_singleton.mp q)
variable (H : HdOk h1 h mg mb)
theorem lam_0 : LamAt (cx prog w H) 0 lam0 := ⟨.inl ⟨rfl, rfl⟩, fun i e => e.elim (·.2) fun z => nomatch z.1⟩
theorem lam_1 : LamAt (cx prog w H) 1 lam1 := ⟨.inr ⟨rfl, rfl⟩, fun i e => e.elim (fun z => nomatch z.1) (·.2)⟩
theorem bi_at (i : Nat) {x : Str} {v : Value} (e : bis[i]? = some (x, v)) : Bi (cx prog w H) x v := by
  have := all_get (H.S.i 0 rfl) i e
  have a : nsIn (fragH h1) mainGlobals x = some none := eq_of_beq (all_get this 0 rfl)
  have b : bootBuiltins x = some v := eq_of_beq (all_get this 1 rfl)
  have c : (!(x == "__name__")) = true := all_get this 2 rfl
  exact ⟨mg_none_of H.X H.g a, (H.bt x fun q => by rw [q] at c; cases c).trans b⟩
theorem glb_at (i : Nat) {x : Str} {a : Addr} (e : glbs[i]? = some (x, a)) : Glb (cx prog w H) x (.ref a) := ⟨mg_of H.X H.g (eq_of_beq (all_get (H.S.i 1 rfl) i e))⟩
theorem fd_at {K : Frag} {fa : Addr} {fd : FuncData} (e : fdK K fa = some fd) : ∃ o, K.lookup fa = some o ∧ o.data = .func fd := by
  obtain ⟨o, a, b⟩ := Option.bind_eq_some_iff.mp e
  refine ⟨o, a, ?_⟩
  unfold fdOf at b
  split at b
  · rename_i x q; rw [q]; exact congrArg _ (Option.some.inj b)
  · cases b
theorem none_of {v : Value} (h : isNoneV v = true) : v = .none := by
  unfold isNoneV at h
  split at h
  · rfl
  · cases h
theorem ref_of {v : Value} {c : Addr} (h : refOf v = some c) : v = .ref c := by
  unfold refOf at h
  split at h
  · rw [Option.some.inj h]
  · cases h
theorem fn_at (i : Nat) {fa : Addr} {t : FnT} (e : fnas[i]? = some fa) (f : fnsL[i]? = some (fo t)) : ∃ c, FnAt (cx prog w H) fa t.params t.scope t.body c := by
  have a : fnOkB (fragH h1) fa = true := all_get (H.S.i 2 rfl) i e
  have b : fnV (fragH h1) fa = fo t := by
    have := (congrArg (fun l => l[i]?) H.S.f).trans f
    rw [List.getElem?_map, e] at this
    exact Option.some.inj this
  obtain ⟨fd, q, b⟩ := Option.map_eq_some_iff.mp b
  obtain ⟨fd', q', a⟩ := (Option.any_eq_true ..).mp a
  cases q.symm.trans q'
  obtain ⟨o, h1, h2⟩ := fd_at q
  obtain ⟨c, hc⟩ := Option.isSome_iff_exists.mp (all_get (p := id) a 4 rfl)
  have hc := ref_of hc
  exact ⟨c, o, fd, (cx prog w H).inK _ _ h1, h2, congrArg (·.1) b, congrArg (·.2.1) b, congrArg (·.2.2) b, Nat.eq_of_beq_eq_true (all_get (p := id) a 0 rfl), Nat.eq_of_beq_eq_true (all_get (p := id) a 1 rfl), List.isEmpty_iff.mp (all_get (p := id) a 2 rfl), none_of (all_get (p := id) a 3 rfl), hc, hc ▸ codeRec_of (cx prog w H).inK (all_get (p := id) a 5 rfl)⟩
theorem tab_fn {fa c P : Addr} {t : FnT} (e : codeOf (fragH h1) fa = some c) (m : (c, P) ∈ tbs) : FnTab (cx prog w H) t fa P := by
  have ht := (H.T _ m).2
  refine ⟨fun c' At => ?_, ?_⟩
  · obtain ⟨fd, q, e⟩ := Option.bind_eq_some_iff.mp e
    obtain ⟨o, k1, k2⟩ := fd_at q
    obtain ⟨o', fd', e1, e2, u1, u2, u3, u4, u5, u6, u7, e11, u8⟩ := At.at_
    cases ((cx prog w H).inK _ _ k1).symm.trans e1
    cases k2.symm.trans e2
    cases (ref_of e).symm.trans e11
    rcases List.mem_cons.mp m with q | q
    · cases q; exact (ghost_code H.T).1
    · cases List.mem_singleton.mp q; exact (ghost_code H.T).2.1
  · obtain ⟨bm, ob, e1, e2, e3, e4, e5, e6⟩ := H.bm
    refine ⟨bm, ob, e1, e2, (fun q => ?_), (fun q => ?_), ghost_get H.T e3 (fun q => by rw [q] at e4; cases e4), e4, e5, e6⟩
    · obtain ⟨o, es, ep, f1, f2, u1⟩ := H.g
      rw [q, f1] at e3; cases e3
      rw [f2] at e6; cases e6
    · rw [q, show h.get? P = some (tabObj #[]) from ht] at e3; cases e3; cases e4
end
end Mine
end
section
open PySem PySem.W PyProof.Rows
namespace Mine
section
variable {C : Cx} {c fa : Addr} {a : Str}
theorem new_ok (e : newB C.K c fa = true) : NewFacts C c fa := ⟨all_get (p := id) e 0 rfl, all_get (p := id) e 1 rfl, eq_of_beq (all_get (p := id) e 2 rfl), eq_of_beq (all_get (p := id) e 3 rfl)⟩
theorem mth_ok (e : mthB C.K c a fa = true) : MethFacts C c a fa := ⟨eq_of_beq (all_get (p := id) e 0 rfl), eq_of_beq (all_get (p := id) e 1 rfl), eq_of_beq (all_get (p := id) e 2 rfl), eq_of_beq (all_get (p := id) e 3 rfl)⟩
theorem bnd_ok (e : bndB C.K c a fa = true) : BoundFacts C c a fa :=
  have m : mthB C.K c a fa = true := all_get (p := id) e 0 rfl
  ⟨(mth_ok m).hga, (mth_ok m).hk, all_get (p := id) e 1 rfl, (mth_ok m).hf, (mth_ok m).ht, eq_of_beq (all_get (p := id) e 2 rfl), eq_of_beq (all_get (p := id) e 3 rfl), (Bool.not_eq_true' _).mp (all_get (p := id) e 4 rfl)⟩
theorem ins_ok (e : insB C.K c a = true) : InsFacts C c a := by
  have h : (match findIn C.K (.ref c) a with | some r => noGet C.K r | none => false) = true := all_get (p := id) e 2 rfl
  refine ⟨eq_of_beq (all_get (p := id) e 0 rfl), all_get (p := id) e 1 rfl, ?_, eq_of_beq (all_get (p := id) e 3 rfl), all_get (p := id) e 4 rfl, eq_of_beq (all_get (p := id) e 5 rfl)⟩
  cases q : findIn C.K (.ref c) a with
  | none => rw [q] at h; cases h
  | some r => rw [q] at h; exact ⟨r, rfl, h⟩
theorem ent_ok {e : DictEntry} {p : Int × Str} (h : entB e p = true) : (∃ t, e.key = .int p.1 t) ∧ e.hash = hashInt p.1 ∧ ∃ t, e.val = .str p.2 t := by
  obtain ⟨a, h⟩ := Bool.and_eq_true_iff.mp h
  obtain ⟨b, c⟩ := Bool.and_eq_true_iff.mp h
  have a := eq_of_beq a
  have c := eq_of_beq c
  refine ⟨?_, eq_of_beq b, ?_⟩
  · unfold intOf at a
    split at a
    · rename_i q; exact ⟨_, q.trans (by rw [Option.some.inj a])⟩
    · cases a
  · unfold strOf at c
    split at c
    · rename_i q; exact ⟨_, q.trans (by rw [Option.some.inj c])⟩
    · cases c
theorem glE_ok {w : W} : ∀ {es : List DictEntry} {l : List (Int × Str)}, glE es l = true →
    ∃ kvs : List (Int × Value), (∀ e ∈ es, ∃ k, (intKind C.prog C.w).is k e.key = true ∧ e.hash = (intKind C.prog C.w).hash k) ∧ Pairs (intKind C.prog C.w) es kvs ∧ kvs.map (·.1) = l.map (·.1) ∧ RepI C w (mapD .str l) kvs
  | [], l, h => by cases List.isEmpty_iff.mp h; exact ⟨[], (fun u0 m => nomatch m), .nil, rfl, rfl⟩
  | e :: es, l, h => by
    cases l with
    | nil => cases h
    | cons p l =>
      obtain ⟨h1, h2⟩ := Bool.and_eq_true_iff.mp h
      obtain ⟨⟨t, k1⟩, k2, u, k3⟩ := ent_ok h1
      obtain ⟨kvs, a1, a2, a3, a4⟩ := glE_ok (w := w) h2
      have hi : (intKind C.prog C.w).is p.1 e.key = true := k1 ▸ intKind_is ..
      refine ⟨(p.1, e.val) :: kvs, fun x m => ?_, .cons hi rfl a2, congrArg (p.1 :: ·) a3, ⟨_, kvs, ⟨u, k3⟩, a4⟩⟩
      rcases List.mem_cons.mp m with q | q
      · exact ⟨p.1, q ▸ hi, q ▸ k2⟩
      · exact a1 x q
theorem gl_ok {p : Addr} {l : List (Int × Str)} (e : glB C.K p l = true) (ed : (C.K.lookup p).map (fun o => (o.cls, o.dict, o.slots)) = some (.type "dict", none, #[])) (hp : p ≠ sysModules) (hn : (l.map (·.1)).Nodup) {σ : St} {w : W} (I : Inv C σ w) : Rep C w (.di (mapD .str l)) (.ref p) := by
  obtain ⟨es, q, e⟩ := (Option.any_eq_true ..).mp e
  obtain ⟨o, hk, q⟩ := Option.bind_eq_some_iff.mp q
  rw [hk] at ed
  have ed := Option.some.inj ed
  obtain ⟨kvs, a1, a2, a3, a4⟩ := glE_ok (C := C) (w := w) e
  obtain ⟨ep, hd⟩ : ∃ ep, o.data = .dict es ep := by
    unfold esOf at q
    split at q
    · rename_i q'; exact ⟨_, q'.trans (by rw [Option.some.inj q])⟩
    · cases q
  exact ⟨p, o, kvs, hp, I.base _ _ (C.inK _ _ hk), ⟨es, ep, ⟨congrArg (·.1) ed, congrArg (·.2.1) ed, congrArg (·.2.2) ed⟩, hd, (fun x m => a1 x (Array.mem_toList_iff.mpr m)), a2, by rw [a3]; exact hn⟩, a4⟩
end
section
variable {h1 h : Heap} {mg mb : Str → Option Value} {prog : Program} {w : World} (H : HdOk h1 h mg mb)
theorem lim_ok : (cx prog w H).h0.NoLimit := H.lim.at fun o e => ghost_ne e (by decide)
theorem names_ok : Names (cx prog w H) := ⟨lim_ok H, bi_at H 0 rfl, bi_at H 1 rfl, bi_at H 2 rfl, bi_at H 3 rfl, bi_at H 4 rfl, bi_at H 5 rfl, bi_at H 6 rfl, bi_at H 7 rfl, bi_at H 8 rfl, bi_at H 9 rfl, bi_at H 10 rfl, bi_at H 11 rfl, bi_at H 12 rfl, bi_at H 13 rfl, bi_at H 14 rfl⟩
noncomputable def prOk : Pr (cx prog w H) where
  G := names_ok H
  a2 := 106
  F2 := ⟨glb_at H 0 rfl, fn_at H 0 rfl rfl⟩
  a3 := 113
  F3 := ⟨glb_at H 1 rfl, fn_at H 1 rfl rfl⟩
  a4 := 120
  F4 := ⟨glb_at H 2 rfl, fn_at H 2 rfl rfl⟩
  fl := ⟨_, (glb_at H 3 rfl).at_, fun σ w I => gl_ok (H.S.i 3 rfl) H.S.d (by decide) (by decide) I⟩
  a7 := 22
  F7 := ⟨glb_at H 4 rfl, fn_at H 3 rfl rfl⟩
  a8 := 29
  F8 := ⟨glb_at H 5 rfl, fn_at H 4 rfl rfl⟩
  a12 := 127
  F12 := ⟨glb_at H 6 rfl, fn_at H 5 rfl rfl⟩
  p12 := 122
  T12 := tab_fn H (eq_of_beq (H.S.i 18 rfl)) (.head _)
  a13 := 132
  F13 := ⟨glb_at H 7 rfl, fn_at H 6 rfl rfl⟩
  a14 := 137
  F14 := ⟨glb_at H 8 rfl, fn_at H 7 rfl rfl⟩
  a15 := 144
  F15 := ⟨glb_at H 9 rfl, fn_at H 8 rfl rfl⟩
  tc := 95
  tg := glb_at H 11 rfl
  ti := ins_ok (H.S.i 11 rfl)
  t0 := 85
  T0 := ⟨fn_at H 10 rfl rfl⟩
  tn := new_ok (H.S.i 4 rfl)
  t1 := 92
  T1 := ⟨fn_at H 11 rfl rfl⟩
  tm := mth_ok (H.S.i 6 rfl)
  lx := 67
  lg := glb_at H 12 rfl
  l0 := 43
  L0 := ⟨fn_at H 12 rfl rfl⟩
  lnw := new_ok (H.S.i 5 rfl)
  l2 := 57
  l3 := 64
  X := ⟨ins_ok (H.S.i 12 rfl), ins_ok (H.S.i 13 rfl), ins_ok (H.S.i 14 rfl), ins_ok (H.S.i 15 rfl), ⟨fn_at H 13 rfl rfl⟩, mth_ok (H.S.i 7 rfl), bnd_ok (H.S.i 10 rfl), ⟨fn_at H 14 rfl rfl⟩, mth_ok (H.S.i 8 rfl), ⟨fn_at H 15 rfl rfl⟩, mth_ok (H.S.i 9 rfl), lam_1 H⟩
theorem law_fn (L : List Int) (hL : L.length ≤ 63) : ∃ σ', FnTo (cx prog w H) 9 149 [.lst (L.map .int)] [.tab 122 [], .tab 146 []] (.bool true) σ' ∧ Tb2 σ' := by
  have T : FnTab (cx prog w H) (pT 16) 149 146 := tab_fn H (eq_of_beq (H.S.i 19 rfl)) (.tail _ (.head _))
  have F : FnP (cx prog w H) "law" 16 149 := ⟨glb_at H 10 rfl, fn_at H 9 rfl rfl⟩
  obtain ⟨σ', k, f⟩ := law_run (prOk H) (lam_0 H) (lam_1 H) ⟨fn_at H 12 rfl rfl⟩ T.ba L hL
  exact ⟨σ', fn_to (f := fd16) F (lim_ok H) fd16_ok (.cons 0 rfl rfl .nil) fun c hc => .ret fun A env hc' => f ⟨c, hc', T.hd c hc⟩, k⟩
noncomputable def w0 (s : Shared) : W := ⟨s, fun b => if b = 122 then .ob 0 else if b = 146 then .ob 1 else .fz, [122, 146]⟩
theorem inv_0 {s : Shared} (hs : s.heap = h) : Inv (cx prog w H) [.tab 122 [], .tab 146 []] (w0 s) where
  base b o e := by
    have e : (hideAll h [122, 146]).get? b = some o := e
    have no : b ∉ [122, 146] := fun m => by rw [hideAll_none [122, 146] m] at e; cases e
    have n1 : b ≠ 122 := fun q => no (by rw [q]; exact .head _)
    have n2 : b ≠ 146 := fun q => no (by rw [q]; exact .tail _ (.head _))
    exact ⟨(if_neg n1).trans (if_neg n2), hs ▸ of_hideAll _ e⟩
  dead b e := by
    have e : h.get? b = none := hs ▸ e
    have n1 : b ≠ 122 := fun q => nomatch ((q ▸ e : h.get? 122 = none).symm.trans (H.T (126, 122) (.head _)).2)
    have n2 : b ≠ 146 := fun q => nomatch ((q ▸ e : h.get? 146 = none).symm.trans (H.T (148, 146) (.tail _ (.head _))).2)
    exact (if_neg n1).trans (if_neg n2)
  own b k q := by
    unfold w0 at q
    dsimp only at q
    split at q
    · cases q
    · split at q <;> cases q
  obj b n q := by
    unfold w0 at q
    dsimp only at q
    split at q
    · cases q; decide
    · split at q
      · cases q; decide
      · cases q
  len := rfl
  ok n c a e1 e2 := by
    have t := H.T
    match n, e1, e2 with
    | 0, e1, e2 =>
      cases e1; cases e2
      exact ⟨rfl, #[], ⟨rfl, hs ▸ (t (126, 122) (.head _)).2⟩, trivial, fun p u0 => rfl⟩
    | 1, e1, e2 =>
      cases e1; cases e2
      exact ⟨rfl, #[], ⟨rfl, hs ▸ (t (148, 146) (.tail _ (.head _))).2⟩, trivial, fun p u0 => rfl⟩
end
end Mine
end
section
open PySem PySem.W PyProof.Rows
set_option maxHeartbeats 0
namespace Mine
theorem lawok : PySem.Challenge.rw_xc0017_03.wellSaid = true := by kernel_rfl
theorem ints_rep {C : Cx} {w : W} : ∀ {vs : List Value} {ns : List Int}, IntsAre vs ns → RepL C w (ns.map .int) vs
  | _, _, .nil => rfl
  | _, _, .cons n t r => ⟨_, _, ⟨t, rfl⟩, ints_rep r⟩
theorem list_at {h : Heap} {a : Addr} {vs us : List Value} (hL : h.IsList a vs.toArray) (hl : h.get? a = some { cls := .type "list", data := .seq us.toArray }) : h.get? a = some { cls := .type "list", data := .seq vs.toArray } := by
  obtain ⟨o', e1, u1, n, e3⟩ := hL
  rw [hl] at e1
  cases e1
  injection e3 with e3 e4
  rw [hl, e3]
theorem law_call {h1 : Heap} {mg mb : Str → Option Value} {w : World} {s : Shared} (H : HdOk h1 s.heap mg mb) {a : Addr} {vs : List Value} {ns : List Int} (hl : ns.length ≤ 63) (ha : s.heap.get? a = some { cls := .type "list", data := .seq vs.toArray }) (hI : IntsAre vs ns) {R : Result → Shared → Prop}
    (hq : ∀ s', (∀ b o, (ghostOf s.heap tbs).get? b = some o → s'.heap.get? b = some o) → s'.os = s.os → s'.gens = s.gens → GrownAll tbs s'.heap → R (.ok (.ret (.bool true))) s') :
    codeAny (model PySem.Challenge.rw_xc0017_03.row.prog w) callerA (.call (.ref 149) ⟨[.ref a], []⟩) R s := by
  obtain ⟨σ', f, ⟨u1, u2, t0⟩, ⟨u3, u4, t1⟩⟩ := law_fn (prog := PySem.Challenge.rw_xc0017_03.row.prog) (w := w) H ns hl
  have na : ∀ P, s.heap.get? P = some (tabObj #[]) → a ≠ P := fun P e q => by rw [q, e] at ha; cases ha
  have n1 := na 122 (H.T (126, 122) (.head _)).2
  have n2 := na 146 (H.T (148, 146) (.tail _ (.head _))).2
  have hr : Rep (cx PySem.Challenge.rw_xc0017_03.row.prog w H) (w0 s) (.lst (ns.map .int)) (.ref a) := ⟨a, vs, 0, ⟨(if_neg n1).trans (if_neg n2), ha⟩, ints_rep hI⟩
  refine f (w := w0 s) (v := .ref 149) (vals := [.ref a]) ⟨rfl, by decide, by decide⟩ (inv_0 H rfl) rfl (HCons.mk (Value.ref a) [] hr rfl) fun u s' ⟨w', x, I, r⟩ => ?_
  cases r
  obtain ⟨hh, tk, hrest⟩ := x.rest
  refine hq _ (fun b o e => (I.base b o e).is) (by rw [hrest]; rfl) (by rw [hrest]; rfl) ?_
  obtain ⟨u1, ps0, z0, u2⟩ := I.ok 0 _ 122 t0 (x.main 0 122 rfl)
  obtain ⟨u1, ps1, z1, u2⟩ := I.ok 1 _ 146 t1 (x.main 1 146 rfl)
  exact ⟨⟨ps0, z0.is⟩, ⟨ps1, z1.is⟩, trivial⟩
theorem final03 : PySem.Challenge.rw_xc0017_03.Holds := by
  refine holds_law lawok fun said => ?_
  refine holds_open (q := q3) (XP := XL q3 []) (YP := Hook.says hk) left3 (Hook.of hk) (Hook.keeps hk) (fun s e => xl_of s (Bool.and_eq_true_iff.mp e).1) XL.keeps (by rfl) (by rfl) (by rfl) (fun s e => recFacts_of (Bool.and_eq_true_iff.mp e).2) (by rfl) said (by decide +kernel) ⟨rfl, rfl, rfl, rfl, rfl, by decide +kernel⟩ ?hw ?hc
  case hw => w_witness2
  intro w s₀ s₁ mg mb G Y fa o pm cd doc dV kV ho hd hcd hD hmg hg args vals as hpre hlay hrd hwl hlo
  refine Ground.open G ?_
  intro T B D TE TW
  obtain ⟨h1, S, k⟩ := Y
  have H : HdOk h1 s₁.heap mg mb := ⟨S, k, T.g, T.b, T.builtins, T.nolimit, T.bmain⟩
  have hfa : fa = 149 := by
    have e := (glb_at (prog := PySem.Challenge.rw_xc0017_03.row.prog) (w := w) H 10 rfl).at_
    rw [show (cx PySem.Challenge.rw_xc0017_03.row.prog w H).mg "law" = some (.ref fa) from hmg] at e
    cases e; rfl
  subst hfa
  clear T B D TE TW hmg ho hd hcd hD
  wrow_args hpre hlay hrd hwl hlo
  rename_i ns _ _ _ _ _ _ _ a vs _ hL _ w1 _ hI _ hlen _
  refine enter_call (kn_post H.T (fun u0 u0 => rfl) ?_)
  cases w1 with
  | list hl _ =>
    refine law_call H (vs := vs) (ns := ns) (by omega) (list_at hL hl) hI fun s' k1 k2 k3 k4 => ?_
    · refine ⟨⟨.inl ⟨.bool true, .bool true, [], rfl, fun u0 => rfl, .bool true, ?_, fun u0 => ⟨.nil, fun u0 m => by cases m⟩⟩, k1, k2, k3.trans hg⟩, k4⟩
      kernel_rfl
end Mine
end
theorem PySem.Challenge.cw_xc0017_03_holds : PySem.Challenge.rw_xc0017_03.Holds := by
  exact Mine.final03
