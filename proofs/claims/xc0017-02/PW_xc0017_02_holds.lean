import PyProof.Rows.All
import Wide.All
import OpenK.AllK
import Wide.FinOn
import KE.KEqDat
import PyProof.P3In
import KE.KLam
import KE.KItemsList
import PyProof.DictDisplay
import KE.KBoundM
import KE.BitLaws
import PyProof.StrLawsIn
import PySem.Challenge.RW_xc0017_02
set_option Elab.async false
set_option linter.all false
set_option genSizeOf false
set_option genInjectivity false
set_option maxRecDepth 100000
set_option bootstrap.genMatcherCode false
section
open PySem PySem.W PyProof.Rows
namespace Mine
inductive D where
  | none | bool (b : Bool) | int (i : Int) | str (s : Str)
  | tup (l : List D) | lst (l : List D)
  | ds (l : List (Str × D)) | di (l : List (Int × D))
  | loc (n : Nat)
  | lam (k : Nat) (caps : List (Str × D))
structure LamInfo where
  params : Arguments
  body : Expr
  scope : Scope
structure Cx where
  prog : Program
  w : World
  h0 : Heap
  LT : Nat → LamInfo → Prop
  rc : Addr
  mg : Str → Option Value
  mb : Str → Option Value
  glob : h0.Ns mainGlobals mg
  bltn : h0.Ns builtinsNs mb
  K : Frag
  inK : K.In h0
inductive Tag where
  | fz | ob (n : Nat) | mu (k : Addr)
structure W where
  s : Shared
  tag : Addr → Tag
  mn : List Addr
noncomputable abbrev seqObj (T : String) (vs : List Value) (n : Nat) : Obj := { cls := .type T, data := .seq vs.toArray n }
structure At (w : W) (t : Tag) (a : Addr) (o : Obj) : Prop where
  tag : w.tag a = t
  is : w.s.heap.get? a = some o
inductive HCons {α : Type} (P : α → Prop) (Q : List α → Prop) : List α → Prop
  | mk (v : α) (r : List α) (p : P v) (q : Q r) : HCons P Q (v :: r)
inductive HKV {κ : Type} (k : κ) (P : Value → Prop) (Q : List (κ × Value) → Prop) : List (κ × Value) → Prop
  | mk (v : Value) (r : List (κ × Value)) (p : P v) (q : Q r) : HKV k P Q ((k, v) :: r)
inductive HRef (P : Addr → Prop) : Value → Prop
  | mk (a : Addr) (p : P a) : HRef P (.ref a)
inductive HSeq (w : W) (t : Tag) (T : String) (Q : List Value → Prop) (a : Addr) : Prop
  | mk (vs : List Value) (n : Nat) (z : At w t a (seqObj T vs n)) (q : Q vs)
inductive HDict {κ : Type} (w : W) (t : Tag) (K : Obj → List (κ × Value) → Prop) (Q : List (κ × Value) → Prop) (a : Addr) : Prop
  | mk (o : Obj) (kvs : List (κ × Value)) (ne : a ≠ sysModules) (z : At w t a o) (d : K o kvs) (q : Q kvs)
noncomputable def IsDs (C : Cx) (o : Obj) (kvs : List (Str × Value)) : Prop := o.IsDictOf (strKind C.prog C.w) kvs
noncomputable def IsDi (C : Cx) (o : Obj) (kvs : List (Int × Value)) : Prop := o.IsDictOf (intKind C.prog C.w) kvs
structure LamIs (C : Cx) (k : Nat) (caps : List (Str × D)) (fd : FuncData) (c : Addr) (oc : Obj) (i : LamInfo) : Prop where
  lt : C.LT k i
  body : fd.body = .expr i.body
  params : fd.params = i.params
  scope : fd.scope = i.scope
  globals : fd.globals = mainGlobals
  builtins : fd.builtins = builtinsNs
  defaults : fd.defaults = .none
  kwdefaults : fd.kwdefaults = .none
  code : fd.code = .ref c
  rec' : ∃ vs t, oc.data = .fields vs ∧ vs[1]? = some (.str fd.qualname t)
  caps : ∀ x c, fd.closure.lookup x = some c → ∃ d, (x, d) ∈ caps
inductive HLam (C : Cx) (w : W) (k : Nat) (caps : List (Str × D)) (Q : List (Str × Addr) → Prop) (a : Addr) : Prop
  | mk (o : Obj) (fd : FuncData) (c : Addr) (oc : Obj) (i : LamInfo) (z : At w .fz a o) (f : o.data = .func fd) (zc : At w .fz c oc) (l : LamIs C k caps fd c oc i) (q : Q fd.closure)
inductive HCell (w : W) (x : Str) (cl : List (Str × Addr)) (P : Value → Prop) : Prop
  | mk (c : Addr) (o : Obj) (v : Value) (l : cl.lookup x = some c) (z : At w .fz c o) (d : o.data = .cell (some v)) (p : P v)
section
variable (C : Cx) (w : W)
mutual
noncomputable def Rep : D → Value → Prop
  | .none => fun v => v = .none
  | .bool b => fun v => v = .bool b
  | .int i => fun v => ∃ t, v = .int i t
  | .str s => fun v => ∃ t, v = .str s t
  | .tup l => HRef (HSeq w .fz "tuple" (RepL l))
  | .lst l => HRef (HSeq w .fz "list" (RepL l))
  | .ds l => HRef (HDict w .fz (IsDs C) (RepS l))
  | .di l => HRef (HDict w .fz (IsDi C) (RepI l))
  | .loc n => fun v => ∃ a, w.mn[n]? = some a ∧ v = .ref a
  | .lam k caps => HRef (HLam C w k caps (RepC caps))
noncomputable def RepL : List D → List Value → Prop
  | [] => fun vs => vs = []
  | d :: l => HCons (Rep d) (RepL l)
noncomputable def RepS : List (Str × D) → List (Str × Value) → Prop
  | [] => fun vs => vs = []
  | (k, d) :: l => HKV k (Rep d) (RepS l)
noncomputable def RepI : List (Int × D) → List (Int × Value) → Prop
  | [] => fun vs => vs = []
  | (k, d) :: l => HKV k (Rep d) (RepI l)
noncomputable def RepC : List (Str × D) → List (Str × Addr) → Prop
  | [] => fun u0 => True
  | (x, d) :: l => fun cl => HCell w x cl (Rep d) ∧ RepC l cl
end
end
section
variable {C : Cx}
noncomputable def Keeps (w w' : W) (t : Tag) : Prop := ∀ b o, At w t b o → At w' t b o
structure Mono (w w' : W) : Prop where
  keep : Keeps w w' .fz
  main : ∀ (n : Nat) a, w.mn[n]? = some a → w'.mn[n]? = some a
theorem HCons.imp {α : Type} {P P' : α → Prop} {Q Q' : List α → Prop} (p : ∀ v, P v → P' v) (q : ∀ r, Q r → Q' r) {l : List α} : HCons P Q l → HCons P' Q' l
  | ⟨v, r, a, b⟩ => ⟨v, r, p v a, q r b⟩
theorem HKV.imp {κ : Type} {k : κ} {P P' : Value → Prop} {Q Q' : List (κ × Value) → Prop} (p : ∀ v, P v → P' v) (q : ∀ r, Q r → Q' r) {l : List (κ × Value)} : HKV k P Q l → HKV k P' Q' l
  | ⟨v, r, a, b⟩ => ⟨v, r, p v a, q r b⟩
variable {w w' : W}
theorem HRef.imp {P P' : Addr → Prop} (p : ∀ a, P a → P' a) {v : Value} : HRef P v → HRef P' v
  | ⟨a, z⟩ => ⟨a, p a z⟩
theorem HSeq.mono {t : Tag} (M : Keeps w w' t) {T : String} {Q Q' : List Value → Prop} (q : ∀ r, Q r → Q' r) (a : Addr) : HSeq w t T Q a → HSeq w' t T Q' a
  | ⟨vs, n, z, b⟩ => ⟨vs, n, M _ _ z, q _ b⟩
theorem HDict.mono {t : Tag} (M : Keeps w w' t) {κ : Type} {K : Obj → List (κ × Value) → Prop} {Q Q' : List (κ × Value) → Prop} (q : ∀ r, Q r → Q' r) (a : Addr) : HDict w t K Q a → HDict w' t K Q' a
  | ⟨o, kvs, ne, z, d, b⟩ => ⟨o, kvs, ne, M _ _ z, d, q _ b⟩
variable (M : Mono w w')
include M
theorem HLam.mono {k : Nat} {caps : List (Str × D)} {Q Q' : List (Str × Addr) → Prop} (q : ∀ r, Q r → Q' r) (a : Addr) : HLam C w k caps Q a → HLam C w' k caps Q' a
  | ⟨o, fd, c, oc, i, z, f, zc, l, b⟩ => ⟨o, fd, c, oc, i, M.keep _ _ z, f, M.keep _ _ zc, l, q _ b⟩
mutual
theorem Rep.mono : ∀ (d : D) (v : Value), Rep C w d v → Rep C w' d v
  | .none, _ => id
  | .bool _, _ => id
  | .int _, _ => id
  | .str _, _ => id
  | .tup l, _ => HRef.imp (HSeq.mono M.keep (RepL.mono l))
  | .lst l, _ => HRef.imp (HSeq.mono M.keep (RepL.mono l))
  | .ds l, _ => HRef.imp (HDict.mono M.keep (RepS.mono l))
  | .di l, _ => HRef.imp (HDict.mono M.keep (RepI.mono l))
  | .loc n, _ => fun ⟨a, e, q⟩ => ⟨a, M.main n a e, q⟩
  | .lam _ caps, _ => HRef.imp (HLam.mono M (RepC.mono caps))
theorem RepL.mono : ∀ (l : List D) (vs : List Value), RepL C w l vs → RepL C w' l vs
  | [], _ => id
  | d :: l, _ => HCons.imp (Rep.mono d) (RepL.mono l)
theorem RepS.mono : ∀ (l : List (Str × D)) (vs : List (Str × Value)), RepS C w l vs → RepS C w' l vs
  | [], _ => id
  | (_, d) :: l, _ => HKV.imp (Rep.mono d) (RepS.mono l)
theorem RepI.mono : ∀ (l : List (Int × D)) (vs : List (Int × Value)), RepI C w l vs → RepI C w' l vs
  | [], _ => id
  | (_, d) :: l, _ => HKV.imp (Rep.mono d) (RepI.mono l)
theorem RepC.mono : ∀ (l : List (Str × D)) (cl : List (Str × Addr)), RepC C w l cl → RepC C w' l cl
  | [], _ => id
  | (_, d) :: l, cl => fun ⟨⟨c, o, v, e, z, q, a⟩, b⟩ => ⟨⟨c, o, v, e, M.keep _ _ z, q, Rep.mono d v a⟩, RepC.mono l cl b⟩
end
end
end Mine
end
section
open PySem PySem.W PyProof.Rows
namespace Mine
noncomputable def kget {K : Type} [DecidableEq K] : List (K × D) → K → Option D
  | [], _ => none
  | (j, d) :: r, k => if j = k then some d else kget r k
noncomputable def kset {K : Type} [DecidableEq K] : List (K × D) → K → D → List (K × D)
  | [], k, d => [(k, d)]
  | (j, e) :: r, k, d => if j = k then (j, d) :: r else (j, e) :: kset r k d
inductive AO where
  | dead
  | lst (l : List D) | ds (l : List (Str × D)) | di (l : List (Int × D))
  | it (l : List D)
  | ins (c : Addr) (fs : List (Str × D))
  | cit (n : Nat) (live : Bool)
  | tab (P : Addr) (l : List (Nat × Nat))
  | fo (l : List (Str × D))
noncomputable abbrev St := List AO
noncomputable abbrev iterObj (li : Addr) (i : Nat) : Obj := { cls := .type "list_iterator", data := .fields #[.ref li, .int i 0] }
noncomputable abbrev iterEnd (i : Nat) : Obj := { cls := .type "list_iterator", data := .fields #[.none, .int i 0] }
noncomputable abbrev citObj (bm : Addr) (t : Tok) : Obj := { cls := .type "callable_iterator", data := .fields #[.ref bm, .str Str.empty t, .bool false] }
noncomputable abbrev citEnd : Obj := { cls := .type "callable_iterator", data := .fields #[.none, .none, .bool true] }
noncomputable abbrev bmObj (f x : Addr) : Obj := { cls := .type "method", data := .fields #[.ref f, .ref x] }
noncomputable def RepE (C : Cx) (w : W) : List (Str × D) → List DictEntry → Prop
  | [] => fun es => es = []
  | (k, d) :: l => HCons (fun e => ∃ hash t v, e = ⟨hash, .str k t, v⟩ ∧ Rep C w d v) (RepE C w l)
theorem RepE.mono {C : Cx} {w w' : W} (M : Mono w w') : ∀ (l : List (Str × D)) (es : List DictEntry), RepE C w l es → RepE C w' l es
  | [], _ => id
  | (_, d) :: l, _ => HCons.imp (fun u0 ⟨a, b, v, e, r⟩ => ⟨a, b, v, e, Rep.mono M d v r⟩) (RepE.mono M l)
inductive HIt (w : W) (t : Tag) (Q : List Value → Prop) (a : Addr) : Prop
  | on (li : Addr) (vs : List Value) (k i : Nat) (z : At w t a (iterObj li i)) (zl : At w .fz li (seqObj "list" vs k)) (q : Q (vs.drop i))
  | off (i : Nat) (z : At w t a (iterEnd i)) (q : Q [])
inductive HIns (w : W) (t : Tag) (c : Addr) (Q : List DictEntry → Prop) (a : Addr) : Prop
  | mk (dx : Addr) (es : List DictEntry) (k : Nat) (z : At w t a (instObj c dx)) (zd : At w t dx (dictOf es k)) (q : Q es)
inductive HCit (C : Cx) (w : W) (t : Tag) (m : Nat) (a : Addr) : Prop
  | mk (bm : Addr) (k : Tok) (x : Addr) (z : At w t a (citObj bm k)) (zb : At w .fz bm (bmObj C.rc x)) (e : w.mn[m]? = some x)
inductive HTab (w : W) (t : Tag) (l : List (Nat × Nat)) (a : Addr) : Prop
  | mk (ps : Array Value) (z : At w t a (tabObj ps)) (ok : TriplesOk ps.toList) (q : ∀ pos : Pos, (pos.line, pos.col) ∉ l → codeAmong pos ps.toList = none)
noncomputable def RepN (C : Cx) (w : W) : List (Str × D) → (Str → Option Value) → Prop
  | [] => fun u0 => True
  | (x, d) :: l => fun m => (∃ v, m x = some v ∧ Rep C w d v) ∧ RepN C w l m
theorem RepN.mono {C : Cx} {w w' : W} (M : Mono w w') : ∀ (l : List (Str × D)) (m : Str → Option Value), RepN C w l m → RepN C w' l m
  | [], _ => id
  | (_, d) :: l, m => fun ⟨⟨v, e, a⟩, b⟩ => ⟨⟨v, e, Rep.mono M d v a⟩, RepN.mono M l m b⟩
inductive HFo (w : W) (t : Tag) (l : List (Str × D)) (Q : (Str → Option Value) → Prop) (a : Addr) : Prop
  | no (o : Obj) (fd : FuncData) (z : At w t a o) (c : o.cls = .type "function") (f : o.data = .func fd) (dd : o.dict = none) (e : l = [])
  | di (ne : l ≠ []) (d : Addr) (o od : Obj) (fd : FuncData) (es : Array DictEntry) (ep : Nat) (z : At w t a o) (c : o.cls = .type "function") (f : o.data = .func fd) (dd : o.dict = some d) (zd : At w t d od) (od' : od.data = .dict es ep) (sk : StrKeys es) (q : Q (nsFind es))
noncomputable def AOk (C : Cx) (w : W) (n : Nat) : AO → Addr → Prop
  | .dead => fun u0 => True
  | .lst l => HSeq w (.ob n) "list" (RepL C w l)
  | .ds l => HDict w (.ob n) (IsDs C) (RepS C w l)
  | .di l => HDict w (.ob n) (IsDi C) (RepI C w l)
  | .it l => HIt w (.ob n) (RepL C w l)
  | .ins c fs => HIns w (.ob n) c (RepE C w fs)
  | .cit m true => HCit C w (.ob n) m
  | .cit _ false => fun a => At w (.ob n) a citEnd
  | .tab P l => fun a => a = P ∧ HTab w (.ob n) l a
  | .fo l => HFo w (.ob n) l (RepN C w l)
theorem AOk.mono {C : Cx} {w w' : W} {n : Nat} (M : Mono w w') (k : Keeps w w' (.ob n)) : ∀ {c : AO} {a : Addr}, AOk C w n c a → AOk C w' n c a
  | .dead, _ => id
  | .lst l, a => HSeq.mono k (RepL.mono M l) a
  | .ds l, a => HDict.mono k (RepS.mono M l) a
  | .di l, a => HDict.mono k (RepI.mono M l) a
  | .it l, _ => fun
    | .on li vs j i z zl q => .on li vs j i (k _ _ z) (M.keep _ _ zl) (RepL.mono M l _ q)
    | .off i z q => .off i (k _ _ z) (RepL.mono M l _ q)
  | .ins c fs, _ => fun ⟨dx, es, j, z, zd, q⟩ => ⟨dx, es, j, k _ _ z, k _ _ zd, RepE.mono M fs _ q⟩
  | .cit m true, _ => fun ⟨bm, t, x, z, zb, e⟩ => ⟨bm, t, x, k _ _ z, M.keep _ _ zb, M.main _ _ e⟩
  | .cit _ false, _ => k _ _
  | .tab P l, _ => fun ⟨e, ps, z, ok, q⟩ => ⟨e, ps, k _ _ z, ok, q⟩
  | .fo l, _ => fun
    | .no o fd z c f dd e => .no o fd (k _ _ z) c f dd e
    | .di ne d o od fd es ep z c f dd zd e sk q => .di ne d o od fd es ep (k _ _ z) c f dd (k _ _ zd) e sk (RepN.mono M _ _ q)
noncomputable def Alive (w : W) (b : Addr) : Prop := ∃ o, w.s.heap.get? b = some o
theorem At.alive {w : W} {t : Tag} {a : Addr} {o : Obj} (z : At w t a o) : Alive w a := ⟨o, z.is⟩
theorem Alive.no {w : W} {b : Addr} (a : Alive w b) (e : w.s.heap.get? b = none) : False := let ⟨_, q⟩ := a; nomatch q.symm.trans e
theorem dead_of {w : W} {b : Addr} (a : ¬ Alive w b) : w.s.heap.get? b = none := Option.eq_none_iff_forall_ne_some.mpr fun o e => a ⟨o, e⟩
structure Inv (C : Cx) (σ : St) (w : W) : Prop where
  base : ∀ b o, C.h0.get? b = some o → At w .fz b o
  dead : ∀ b, w.s.heap.get? b = none → w.tag b = .fz
  own : ∀ b k, w.tag b = .mu k → ∃ o, At w (.mu k) k o
  obj : ∀ b n, w.tag b = .ob n → n < σ.length
  len : w.mn.length = σ.length
  ok : ∀ (n : Nat) c a, σ[n]? = some c → w.mn[n]? = some a → AOk C w n c a
structure Step (F : Addr → Prop) (w w' : W) : Prop extends Mono w w' where
  mu : ∀ k, ¬ F k → Keeps w w' (.mu k)
  rest : ∃ h t, w'.s = { w.s with heap := h, toks := t }
noncomputable abbrev NoX : Tag → Prop := fun u0 => False
noncomputable abbrev NoF : Addr → Prop := fun u0 => False
section
variable {C : Cx} {F F' : Addr → Prop} {w w' w₁ w₂ w₃ : W} {σ σ' : St} {a : Addr}
theorem Step.refl (F w) : Step F w w := ⟨⟨fun u0 u0 z => z, fun u0 u0 e => e⟩, fun u0 u0 u0 u0 z => z, w.s.heap, w.s.toks, rfl⟩
theorem Step.trans (x : Step F w₁ w₂) (y : Step F w₂ w₃) : Step F w₁ w₃ where
  keep b o z := y.keep b o (x.keep b o z)
  main n a e := y.main n a (x.main n a e)
  mu k f b o z := y.mu k f b o (x.mu k f b o z)
  rest := let ⟨_, _, e⟩ := x.rest; let ⟨h, t, e'⟩ := y.rest; ⟨h, t, by rw [e', e]⟩
theorem Step.weaken (x : Step F w w') (h : ∀ b, F b → F' b) : Step F' w w' := { x with mu := fun k f => x.mu k fun q => f (h k q) }
theorem Step.ofN (x : Step NoF w w') : Step F w w' := x.weaken fun u0 q => q.elim
noncomputable def NoT (w : W) (a : Addr) : Prop := ∀ b, w.tag b ≠ .mu a
theorem NoT.of (I : Inv C σ w) {a : Addr} (e : w.s.heap.get? a = none) : NoT w a := fun b q => let ⟨_, y⟩ := I.own b a q; y.alive.no e
theorem NoT.back (n : NoT w' a) (I : Inv C σ w) (x : Step NoF w w') : NoT w a := fun b q => let ⟨o, y⟩ := I.own b a q; n a (x.mu a id a o y).tag
theorem Step.tight (x : Step F w w') (h : ∀ b, F b → F' b ∨ NoT w b) : Step F' w w' := { x with mu := fun k f b o z => x.mu k (fun q => (h k q).elim f fun e => e b z.tag) b o z }
theorem Step.rep (x : Step F w w') {d : D} {v : Value} (r : Rep C w d v) : Rep C w' d v := Rep.mono x.toMono d v r
theorem Step.repL (x : Step F w w') {d : List D} {v : List Value} (r : RepL C w d v) : RepL C w' d v := RepL.mono x.toMono d v r
structure Chg (X : Tag → Prop) (w w' : W) : Prop where
  keep : ∀ t, ¬ X t → Keeps w w' t
  rest : ∃ h t, w'.s = { w.s with heap := h, toks := t }
  main : ∀ (n : Nat) a, w.mn[n]? = some a → w'.mn[n]? = some a
theorem Chg.step {X : Tag → Prop} (c : Chg X w w') (h0 : ¬ X .fz) (hF : ∀ k, X (.mu k) → F k) : Step F w w' :=
  ⟨⟨c.keep _ h0, c.main⟩, fun k f => c.keep _ fun q => f (hF k q), c.rest⟩
theorem Chg.inv {X : Tag → Prop} (c : Chg X w w') (I : Inv C σ w) (h0 : ¬ X .fz) (dead : ∀ b, w'.s.heap.get? b = none → w'.tag b = .fz) (own : ∀ b k, w'.tag b = .mu k → ∃ o, At w' (.mu k) k o)
    (obj : ∀ b n, w'.tag b = .ob n → n < σ'.length) (len : w'.mn.length = σ'.length)
    (ok : ∀ (n : Nat) c a, σ'[n]? = some c → w'.mn[n]? = some a → AOk C w' n c a ∨ (¬ X (.ob n) ∧ σ[n]? = some c ∧ w.mn[n]? = some a)) : Inv C σ' w' :=
  ⟨fun b o e => c.keep _ h0 _ _ (I.base b o e), dead, own, obj, len, fun n co a e1 e2 => (ok n co a e1 e2).elim id fun ⟨q, e3, e4⟩ => (I.ok n co a e3 e4).mono ⟨c.keep _ h0, c.main⟩ (c.keep _ q)⟩
end
end Mine
end
section
open PySem PySem.W PyProof.Rows
namespace Mine
noncomputable def W.put (w : W) (as : List Addr) (t : Tag) (h : Heap) (k : Tok) (m : List Addr) : W := ⟨{ w.s with heap := h, toks := k }, fun b => if b ∈ as then t else w.tag b, w.mn ++ m⟩
section
variable {C : Cx} {F : Addr → Prop} {w w' : W} {σ σ' : St} {X : Tag → Prop} {as m : List Addr} {t : Tag} {h : Heap} {k : Tok}
theorem Chg.put (hX : ∀ t', ¬ X t' → ∀ b o, At w t' b o → b ∉ as ∧ h.get? b = some o) : Chg X w (w.put as t h k m) :=
  ⟨fun t' n b o z => ⟨(if_neg (hX t' n b o z).1).trans z.tag, (hX t' n b o z).2⟩, ⟨h, k, rfl⟩, fun n a e => (List.getElem?_append_left (List.getElem?_eq_some_iff.mp e).1).trans e⟩
theorem put_dead (I : Inv C σ w) (hA : ∀ b ∈ as, ∃ o, h.get? b = some o) (ha : ∀ b, Alive w b → ∃ o, h.get? b = some o) (b : Addr) (e : h.get? b = none) : (w.put as t h k m).tag b = .fz :=
  (if_neg fun q => let ⟨_, e'⟩ := hA b q; nomatch e'.symm.trans e).trans (I.dead b (dead_of fun q => let ⟨_, e'⟩ := ha b q; nomatch e'.symm.trans e))
theorem put_tag {b : Addr} (t' : Tag) (e : (w.put as t h k m).tag b = t') : w.tag b = t' ∨ (b ∈ as ∧ t = t') := by
  have e : (if b ∈ as then t else w.tag b) = t' := e
  by_cases q : b ∈ as
  · rw [if_pos q] at e; exact .inr ⟨q, e⟩
  · rw [if_neg q] at e; exact .inl e
theorem put_own (I : Inv C σ w) (ha : ∀ b, Alive w b → ∃ o, h.get? b = some o) (hs : ∀ b ∈ as, w.tag b ≠ .mu b) {b j : Addr} (e : w.tag b = .mu j) : ∃ o, At (w.put as t h k m) (.mu j) j o :=
  let ⟨_, z⟩ := I.own b j e; let ⟨o, q⟩ := ha j z.alive; ⟨o, (if_neg fun m => hs j m z.tag).trans z.tag, q⟩
theorem Inv.put (I : Inv C σ w) (c : Chg X w (w.put as t h k [])) (h0 : ¬ X .fz) (hob : ∀ n, ¬ X (.ob n)) (hA : ∀ b ∈ as, ∃ o, h.get? b = some o) (ha : ∀ b, Alive w b → ∃ o, h.get? b = some o) (hs : ∀ b ∈ as, w.tag b ≠ .mu b) (ht : ∀ j, t = .mu j → ∃ o, At (w.put as t h k []) (.mu j) j o) (hn : ∀ n, t ≠ .ob n) : Inv C σ (w.put as t h k []) :=
  c.inv I h0 (put_dead I hA ha) (fun b j e => (put_tag _ e).elim (put_own I ha hs) fun e => ht j e.2) (fun b j e => (put_tag _ e).elim (I.obj b j) fun e => absurd e.2 (hn j))
    ((congrArg _ (List.append_nil _)).trans I.len) fun n co a e1 e2 => .inr ⟨hob n, e1, (congrArg (·[n]?) (List.append_nil w.mn)).symm.trans e2⟩
theorem Inv.set' {n : Nat} {co : AO} (ht : t = .fz ∨ t = .ob n ∧ n < σ.length) (I : Inv C σ w) (c : Chg (· = .ob n) w (w.put as t h k [])) (hA : ∀ b ∈ as, ∃ o, h.get? b = some o) (ha : ∀ b, Alive w b → ∃ o, h.get? b = some o) (hs : ∀ b ∈ as, w.tag b ≠ .mu b) (ok : ∀ a, w.mn[n]? = some a → AOk C (w.put as t h k []) n co a) : Inv C (σ.set n co) (w.put as t h k []) :=
  c.inv I (fun q => nomatch q) (put_dead I hA ha) (fun b j e => (put_tag _ e).elim (put_own I ha hs) fun e => ht.elim (fun q => nomatch q.symm.trans e.2) fun q => nomatch q.1.symm.trans e.2) (fun b j e => (put_tag _ e).elim (fun e => by rw [List.length_set]; exact I.obj b j e) fun e => ht.elim (fun q => nomatch q.symm.trans e.2) fun q => by cases q.1.symm.trans e.2; rw [List.length_set]; exact q.2)
    ((congrArg _ (List.append_nil _)).trans (I.len.trans List.length_set.symm)) fun j co' a e1 e2 => by
      have e3 : w.mn[j]? = some a := (congrArg (·[j]?) (List.append_nil w.mn)).symm.trans e2
      by_cases q : n = j
      · subst q
        rw [List.getElem?_set_self (by have := (List.getElem?_eq_some_iff.mp e1).1; rwa [List.length_set] at this)] at e1
        cases e1; exact .inl (ok a e3)
      · rw [List.getElem?_set_ne q] at e1
        exact .inr ⟨fun z => by cases z; exact q rfl, e1, e3⟩
theorem Inv.set {n : Nat} {co : AO} (I : Inv C σ w) (c : Chg (· = .ob n) w (w.put as .fz h k [])) (hA : ∀ b ∈ as, ∃ o, h.get? b = some o) (ha : ∀ b, Alive w b → ∃ o, h.get? b = some o) (hs : ∀ b ∈ as, w.tag b ≠ .mu b) (ok : ∀ a, w.mn[n]? = some a → AOk C (w.put as .fz h k []) n co a) : Inv C (σ.set n co) (w.put as .fz h k []) := I.set' (.inl rfl) c hA ha hs ok
theorem Inv.new {a : Addr} {co : AO} (I : Inv C σ w) (c : Chg NoX w (w.put as (.ob σ.length) h k [a])) (hA : ∀ b ∈ as, ∃ o, h.get? b = some o) (ha : ∀ b, Alive w b → ∃ o, h.get? b = some o) (hs : ∀ b ∈ as, w.tag b ≠ .mu b) (ok : AOk C (w.put as (.ob σ.length) h k [a]) σ.length co a) : Inv C (σ ++ [co]) (w.put as (.ob σ.length) h k [a]) :=
  c.inv I id (put_dead I hA ha) (fun b j e => (put_tag _ e).elim (put_own I ha hs) fun e => nomatch e.2)
    (fun b j e => by rw [List.length_append]; exact (put_tag _ e).elim (fun e => Nat.lt_succ_of_lt (I.obj b j e)) fun e => by cases e.2; exact Nat.lt_succ_self _)
    (by show (w.mn ++ [a]).length = _; rw [List.length_append, List.length_append, I.len]; rfl) fun j co' a' e1 e2 => by
      have e2 : (w.mn ++ [a])[j]? = some a' := e2
      rcases Nat.lt_or_ge j σ.length with q | q
      · rw [List.getElem?_append_left q] at e1
        rw [List.getElem?_append_left (by rw [I.len]; exact q)] at e2
        exact .inr ⟨id, e1, e2⟩
      · have q' := (List.getElem?_eq_some_iff.mp e1).1
        rw [List.length_append] at q'
        have : j = σ.length := Nat.le_antisymm (Nat.le_of_lt_succ q') q
        subst this
        rw [List.getElem?_append_right (Nat.le_refl _), Nat.sub_self] at e1
        rw [← I.len, List.getElem?_append_right (Nat.le_refl _), Nat.sub_self] at e2
        cases e1; cases e2; exact .inl ok
noncomputable def W.fin (w : W) (ks : List Addr) (h : Heap) (k : Tok) : W := ⟨{ w.s with heap := h, toks := k }, fun b => match w.tag b with | .mu j => if j ∈ ks then .fz else .mu j | t => t, w.mn⟩
variable {ks : List Addr}
theorem fin_keep (hk : ∀ b o, (∀ j ∈ ks, w.tag b ≠ .mu j) → w.s.heap.get? b = some o → h.get? b = some o) {t : Tag} (ht : ∀ j ∈ ks, t ≠ .mu j) : Keeps w (w.fin ks h k) t := fun b o z =>
  ⟨by
    show (match w.tag b with | .mu j => if j ∈ ks then Tag.fz else .mu j | t => t) = t
    rw [z.tag]
    cases t with
    | mu j => exact if_neg fun m => ht j m rfl
    | _ => rfl, hk b o (fun j m e => ht j m (z.tag.symm.trans e)) z.is⟩
theorem fin_tag {b : Addr} {t : Tag} (e : (w.fin ks h k).tag b = t) : (∃ j ∈ ks, w.tag b = .mu j ∧ t = .fz) ∨ w.tag b = t := by
  have e : (match w.tag b with | .mu j => if j ∈ ks then Tag.fz else .mu j | t => t) = t := e
  cases q : w.tag b with
  | mu j =>
    rw [q] at e
    by_cases m : j ∈ ks
    · exact .inl ⟨j, m, rfl, ((if_pos m).symm.trans e).symm⟩
    · exact .inr ((if_neg m).symm.trans e)
  | _ => rw [q] at e; exact .inr e
theorem Inv.fin (I : Inv C σ w) (hk : ∀ b o, (∀ j ∈ ks, w.tag b ≠ .mu j) → w.s.heap.get? b = some o → h.get? b = some o) : Inv C σ (w.fin ks h k) where
  base b o e := fin_keep (t := .fz) hk (fun u0 u0 e => nomatch e) _ _ (I.base b o e)
  dead b e := by
    show (match w.tag b with | .mu j => if j ∈ ks then Tag.fz else .mu j | t => t) = .fz
    by_cases q : ∃ j ∈ ks, w.tag b = .mu j
    · obtain ⟨j, m, q⟩ := q; rw [q]; exact if_pos m
    · rw [I.dead b (dead_of fun ⟨o, z⟩ => nomatch (hk b o (fun j m e => q ⟨j, m, e⟩) z).symm.trans e)]
  own b j e := by
    rcases fin_tag e with ⟨_, _, _, q⟩ | q
    · exact nomatch q
    · obtain ⟨o, z⟩ := I.own b j q
      refine ⟨o, fin_keep hk (fun i m x => ?_) _ _ z⟩
      cases x
      have e : (match w.tag b with | .mu j => if j ∈ ks then Tag.fz else .mu j | t => t) = .mu j := e
      rw [q] at e
      exact nomatch (if_pos m).symm.trans e
  obj b n e := (fin_tag e).elim (fun ⟨_, _, _, q⟩ => nomatch q) (I.obj b n)
  len := I.len
  ok n c a e1 e2 := (I.ok n c a e1 e2).mono (Mono.mk (fin_keep (t := .fz) hk (fun u0 u0 e => nomatch e)) (fun u0 u0 e => e)) (fin_keep (t := .ob n) hk (fun u0 u0 e => nomatch e))
theorem Step.fin {w₀ : W} {F' : Addr → Prop} (x : Step F' w₀ w) (hk : ∀ b o, (∀ j ∈ ks, w.tag b ≠ .mu j) → w.s.heap.get? b = some o → h.get? b = some o) (hF : ∀ j, F' j → F j ∨ j ∈ ks) (hn : ∀ j ∈ ks, NoT w₀ j) : Step F w₀ (w.fin ks h k) where
  keep b o z := fin_keep (t := .fz) hk (fun u0 u0 e => nomatch e) _ _ (x.keep b o z)
  main := x.main
  mu j f b o z := have no : j ∉ ks := fun m => hn j m b z.tag
    fin_keep hk (fun i m e => by cases e; exact no m) _ _ (x.mu j (fun q => (hF j q).elim f no) b o z)
  rest := let ⟨_, _, e⟩ := x.rest; ⟨h, k, by show ({ w.s with heap := h, toks := k } : Shared) = _; rw [e]⟩
end
end Mine
end
section
open PySem PySem.W PyProof.Rows
namespace Mine
noncomputable abbrev Rho := List (Option D)
structure Rm (k : Nat) (A : Around) : Prop where
  handled : A.handled = none
  depth : A.depth + k < recursionLimit
  units : A.units + 10 * k + 100 < cLine
structure Fd where
  scope : Scope
  ns : List Str
  own : List Nat
  once : List Nat
structure Ctx where
  C : Cx
  A : Around
  k : Nat
  env : Env
  fd : Fd
  ids : List Addr
noncomputable abbrev Ctx.ns (K : Ctx) : List Str := K.fd.ns
noncomputable abbrev Ctx.own (K : Ctx) : List Nat := K.fd.own
noncomputable abbrev Ctx.once (K : Ctx) : List Nat := K.fd.once
section
variable (K : Ctx)
noncomputable abbrev Ctx.L : Addr := K.env.locals
noncomputable abbrev Ctx.Cl (x : Str) : Prop := K.env.kindOf x = some .cell ∨ K.env.kindOf x = some .free
structure KOk : Prop where
  room : Rm K.k K.A
  scope : K.env.scope = K.fd.scope
  kind : K.env.scope.kind = .function
  glob : K.env.globals = mainGlobals
  bi : K.env.builtins = builtinsNs
  nd : K.ns.Nodup
  id : K.L ∈ K.ids
  own : ∀ i ∈ K.own, ∀ x, K.ns[i]? = some x → K.env.kindOf x = some .local ∨ K.env.kindOf x = some .cell
  has : ∀ x, K.Cl x → ∃ c, K.env.cells.lookup x = some c
  inj : ∀ i ∈ K.own, ∀ x y c, K.ns[i]? = some x → K.env.kindOf x = some .cell → K.env.cells.lookup x = some c → K.env.cells.lookup y = some c → x = y
noncomputable def Ctx.tagOf (ρ : Rho) (i : Nat) : Tag := match ρ[i]? with
  | some none => .mu K.L
  | _ => if i ∈ K.once then .fz else .mu K.L
inductive LocOk (w : W) (ρ : Rho) : Prop
  | mk (o : Obj) (es : Array DictEntry) (ep : Nat) (z : At w (.mu K.L) K.L o) (e : o.data = .dict es ep) (sk : StrKeys es)
    (val : ∀ (i : Nat) x d, K.ns[i]? = some x → K.env.kindOf x = some .local → ρ[i]? = some (some d) → ∃ v, nsFind es x = some v ∧ Rep K.C w d v)
inductive CellOk (w : W) (ρ : Rho) (x : Str) (c : Addr) : Prop
  | mk (o : Obj) (ov : Option Value) (t : Tag) (z : At w t c o) (e : o.data = .cell ov) (ne : c ≠ K.L) (ht : t = .fz ∨ ∃ k ∈ K.ids, t = .mu k)
    (val : ∀ (i : Nat) d, K.ns[i]? = some x → K.Cl x → ρ[i]? = some (some d) → ∃ v, ov = some v ∧ Rep K.C w d v)
    (own : ∀ i ∈ K.own, K.ns[i]? = some x → K.env.kindOf x = some .cell → t = K.tagOf ρ i)
structure EnvOk (w : W) (ρ : Rho) : Prop where
  loc : LocOk K w ρ
  cel : ∀ x c, K.env.cells.lookup x = some c → CellOk K w ρ x c
  ids : ∀ j ∈ K.ids, ∃ o, At w (.mu j) j o
end
section
variable {K : Ctx} {F : Addr → Prop} {w w' : W} {ρ : Rho} {σ : St}
theorem EnvOk.step (V : EnvOk K w ρ) (o : KOk K) (x : Step F w w') (hF : ∀ k ∈ K.ids, ¬ F k) : EnvOk K w' ρ :=
  ⟨let ⟨o', es, ep, z, e, sk, val⟩ := V.loc; ⟨o', es, ep, x.mu _ (hF _ o.id) _ _ z, e, sk, fun i y d a b c => let ⟨v, p, q⟩ := val i y d a b c; ⟨v, p, x.rep q⟩⟩,
   fun y c a => let ⟨o', ov, t, z, e, ne, ht, val, own⟩ := V.cel y c a
    ⟨o', ov, t, ht.elim (fun q => by subst q; exact x.keep _ _ z) fun ⟨k, m, q⟩ => by subst q; exact x.mu k (hF k m) _ _ z, e, ne, ht, fun i d a b c => let ⟨v, p, q⟩ := val i d a b c; ⟨v, p, x.rep q⟩, own⟩, fun j m => let ⟨o', z⟩ := V.ids j m; ⟨o', x.mu j (hF j m) _ _ z⟩⟩
theorem EnvOk.stepN (V : EnvOk K w ρ) (o : KOk K) (x : Step NoF w w') : EnvOk K w' ρ := V.step o x fun u0 u0 q => q
theorem ns_inj (o : KOk K) {i j : Nat} {x : Str} (hi : K.ns[i]? = some x) (hj : K.ns[j]? = some x) : i = j := (List.getElem?_inj (List.getElem?_eq_some_iff.mp hi).1 o.nd).mp (hi.trans hj.symm)
noncomputable def Ctx.own1 (K : Ctx) : Addr → Prop := fun b => b = K.L
noncomputable def Fd.may (f : Fd) (ρ : Rho) (i : Nat) : Bool := f.own.contains i && Nat.blt i ρ.length && (!f.once.contains i || match ρ[i]? with
  | some none => true
  | _ => false)
noncomputable abbrev Ctx.may (K : Ctx) (ρ : Rho) (i : Nat) : Bool := K.fd.may ρ i
inductive OutN (K : Ctx) (F : Addr → Prop) (w : W) (σ : St) (ρ : Rho) : Shared → Prop
  | mk (w' : W) (x : Step F w w') (I : Inv K.C σ w') (V : EnvOk K w' ρ) : OutN K F w σ ρ w'.s
theorem set_same {i : Nat} {d : D} (h : ∃ a, ρ[i]? = some a) : (ρ.set i (some d))[i]? = some (some d) := let ⟨_, h⟩ := h; List.getElem?_set_self (List.getElem?_eq_some_iff.mp h).1
theorem may_of {i : Nat} (h : K.may ρ i = true) : i ∈ K.own ∧ K.tagOf ρ i = .mu K.L ∧ ∃ a, ρ[i]? = some a := by
  obtain ⟨h, h3⟩ := Bool.and_eq_true_iff.mp h
  obtain ⟨h1, h2⟩ := Bool.and_eq_true_iff.mp h
  have hl : i < ρ.length := Nat.le_of_ble_eq_true h2
  have e : ρ[i]? = some ρ[i] := List.getElem?_eq_getElem hl
  refine ⟨List.contains_iff_mem.mp h1, ?_, _, e⟩
  unfold Ctx.tagOf
  rw [e] at h3 ⊢
  cases q : ρ[i] with
  | none => rfl
  | some d => rw [q] at h3; exact if_neg fun m => (Bool.or_eq_true_iff.mp h3).elim (fun h => by rw [List.contains_iff_mem.mpr m] at h; cases h) fun h => nomatch h
theorem store_ok {M : Model} {A : Around} {E : Value → Shared → Prop} {i : Nat} {x : Str} {d : D} {v : Value} (o : KOk K) (I : Inv K.C σ w) (V : EnvOk K w ρ) (hi : K.ns[i]? = some x) (hmay : K.may ρ i = true) (R : Rep K.C w d v) :
    wpAny M A (storeName K.env x v) (fun u0 => OutN K K.own1 w σ (ρ.set i (some d))) E w.s := by
  obtain ⟨hown, htag, hs⟩ := may_of hmay
  obtain ⟨lo, es, ep, lz, le, sk, lval⟩ := V.loc
  have hf : ∀ t : Tag, ¬ t = .mu K.L → t ≠ .mu K.L := fun u0 q => q
  rcases o.own i hown x hi with hl | hc
  · refine wpAny_storeName_local hl ⟨lo, es, ep, lz.is, le, sk, fun u0 => rfl⟩ (fun h' hn' hsb => ?_) (by rw [o.kind]; rfl)
    obtain ⟨o', es', ep', e1, e2, e3, e4⟩ := hn'
    have c : Chg (· = .mu K.L) w (w.put [] .fz h' (w.s.toks + 1) []) := .put (fun t n b ob z => ⟨List.not_mem_nil, (hsb.2 b fun q => n (by rw [← z.tag, q, lz.tag])).trans z.is⟩)
    have ha : ∀ b, Alive w b → ∃ o, h'.get? b = some o := fun b ⟨ob, q⟩ => by
      by_cases z : b = K.L
      · exact ⟨o', by rw [z]; exact e1⟩
      · exact ⟨ob, (hsb.2 b z).trans q⟩
    have X : Step K.own1 w (w.put [] .fz h' (w.s.toks + 1) []) := c.step (fun q => nomatch q) fun k q => by cases q; rfl
    refine ⟨w.put [] .fz h' (w.s.toks + 1) [], X, I.put c (fun q => nomatch q) (fun u0 q => nomatch q) (fun u0 q => nomatch q) ha (fun u0 q => nomatch q) (fun u0 q => nomatch q) (fun u0 q => nomatch q), ⟨o', es', ep', ⟨lz.tag, e1⟩, e2, e3, fun j y e a b f => ?_⟩, fun y c q => ?_, fun j m => ?_⟩
    · rw [e4]
      by_cases q : i = j
      · subst q
        cases hi.symm.trans a
        cases (set_same hs).symm.trans f
        exact ⟨v, if_pos rfl, X.rep R⟩
      · rw [List.getElem?_set_ne q] at f
        obtain ⟨u, p, r⟩ := lval j y e a b f
        exact ⟨u, (if_neg fun (z : y = x) => q (ns_inj o hi (z ▸ a))).trans p, X.rep r⟩
    · obtain ⟨co, ov, t, z, e, ne, ht, val, own⟩ := V.cel y c q
      have nx : ∀ j, K.ns[j]? = some y → K.Cl y → i ≠ j := fun j a b k => by
        subst k; cases hi.symm.trans a
        exact b.elim (fun b => nomatch hl.symm.trans b) fun b => nomatch hl.symm.trans b
      refine ⟨co, ov, t, ⟨z.tag, (hsb.2 c ne).trans z.is⟩, e, ne, ht, fun j d' a b f => ?_, fun j m a b => ?_⟩
      · rw [List.getElem?_set_ne (nx j a b)] at f
        obtain ⟨u, p, r⟩ := val j d' a b f
        exact ⟨u, p, X.rep r⟩
      · rw [own j m a b]; unfold Ctx.tagOf; rw [List.getElem?_set_ne (nx j a (.inl b))]
    · by_cases q : j = K.L
      · subst q; exact ⟨o', lz.tag, e1⟩
      · obtain ⟨oj, z⟩ := V.ids j m
        exact ⟨oj, c.keep (.mu j) (fun e => q (by cases e; rfl)) _ _ z⟩
  · obtain ⟨c, hcl⟩ := o.has x (.inl hc)
    obtain ⟨co, ov, t, cz, ce, cne, u1, cval, cown⟩ := V.cel x c hcl
    have ct := cown i hown hi hc
    rw [htag] at ct
    subst ct
    refine wpAny_storeName_cell o.kind hc hcl ⟨co, cz.is, ce⟩ fun h' hc' hsb => ?_
    obtain ⟨o', e1, e2⟩ := hc'
    have c0 : Chg (· = .mu K.L) w (w.put (if i ∈ K.once then [c] else []) .fz h' w.s.toks []) := .put (fun t n b ob z => by
        have : b ≠ c := fun q => n (by rw [← z.tag, q, cz.tag])
        refine ⟨fun m => ?_, (hsb.2 b this).trans z.is⟩
        split at m
        · exact this (List.mem_singleton.mp m)
        · cases m)
    have ha : ∀ b, Alive w b → ∃ o, h'.get? b = some o := fun b ⟨ob, q⟩ => by
      by_cases z : b = c
      · exact ⟨o', by rw [z]; exact e1⟩
      · exact ⟨ob, (hsb.2 b z).trans q⟩
    have X : Step K.own1 w (w.put (if i ∈ K.once then [c] else []) .fz h' w.s.toks []) := c0.step (fun q => nomatch q) fun k q => by cases q; rfl
    have tg : ∀ b, b ≠ c → (w.put (if i ∈ K.once then [c] else []) .fz h' w.s.toks []).tag b = w.tag b := fun b q => if_neg fun m => by
      split at m
      · exact q (List.mem_singleton.mp m)
      · cases m
    have tc : (w.put (if i ∈ K.once then [c] else []) .fz h' w.s.toks []).tag c = K.tagOf (ρ.set i (some d)) i := by
      unfold Ctx.tagOf; rw [set_same hs]
      show (if c ∈ (if i ∈ K.once then [c] else []) then Tag.fz else w.tag c) = if i ∈ K.once then Tag.fz else _
      by_cases q : i ∈ K.once
      · rw [if_pos q, if_pos q, if_pos (.head _)]
      · rw [if_neg q, if_neg q, if_neg List.not_mem_nil, cz.tag]
    refine ⟨w.put (if i ∈ K.once then [c] else []) .fz h' w.s.toks [], X, I.put c0 (fun q => nomatch q) (fun u0 q => nomatch q) (fun b m => ⟨o', ?_⟩) ha (fun b m q => ?_) (fun u0 q => nomatch q) (fun u0 q => nomatch q), ⟨lo, es, ep, ⟨(tg _ (Ne.symm cne)).trans lz.tag, (hsb.2 _ (Ne.symm cne)).trans lz.is⟩, le, sk, fun j y e a b f => ?_⟩, fun y c' q => ?_, fun j m => ?_⟩
    · split at m
      · rw [List.mem_singleton.mp m]; exact e1
      · cases m
    · split at m
      · cases List.mem_singleton.mp m; exact cne (by rw [cz.tag] at q; cases q; rfl)
      · cases m
    · rw [List.getElem?_set_ne (fun k => by subst k; cases hi.symm.trans a; exact nomatch hc.symm.trans b)] at f
      obtain ⟨u, p, r⟩ := lval j y e a b f
      exact ⟨u, p, X.rep r⟩
    · by_cases k : c' = c
      · subst k
        cases o.inj i hown x y c' hi hc hcl q
        refine ⟨o', some v, _, ⟨tc, e1⟩, e2, cne, ?_, fun j d' a b f => ?_, fun j m a b => ?_⟩
        · unfold Ctx.tagOf; rw [set_same hs]
          show (if i ∈ K.once then Tag.fz else .mu K.L) = .fz ∨ _
          by_cases q : i ∈ K.once
          · exact .inl (if_pos q)
          · exact .inr ⟨_, o.id, if_neg q⟩
        · cases ns_inj o hi a
          cases (set_same hs).symm.trans f
          exact ⟨v, rfl, X.rep R⟩
        · cases ns_inj o hi a; rfl
      · obtain ⟨co', ov', t', z, e, ne, ht, val, own⟩ := V.cel y c' q
        have nx : ∀ j, K.ns[j]? = some y → i ≠ j := fun j a b => by
          subst b; cases hi.symm.trans a; exact k (Option.some.inj (q.symm.trans hcl))
        refine ⟨co', ov', t', ⟨(tg _ k).trans z.tag, (hsb.2 _ k).trans z.is⟩, e, ne, ht, fun j d' a b f => ?_, fun j m a b => ?_⟩
        · rw [List.getElem?_set_ne (nx j a)] at f
          obtain ⟨u, p, r⟩ := val j d' a b f
          exact ⟨u, p, X.rep r⟩
        · rw [own j m a b]; unfold Ctx.tagOf; rw [List.getElem?_set_ne (nx j a)]
    · by_cases q : j = K.L
      · subst q; exact ⟨lo, (tg _ (Ne.symm cne)).trans lz.tag, (hsb.2 _ (Ne.symm cne)).trans lz.is⟩
      · obtain ⟨oj, z⟩ := V.ids j m
        exact ⟨oj, c0.keep (.mu j) (fun e => q (by cases e; rfl)) _ _ z⟩
theorem load_ok {M : Model} {A : Around} {E : Value → Shared → Prop} {i : Nat} {x : Str} {d : D} {Q : Value → Shared → Prop} (o : KOk K) (V : EnvOk K w ρ) (hi : K.ns[i]? = some x) (hk : K.env.kindOf x = some .local ∨ K.Cl x)
    (hx : (x == ("__classdict__" : Str)) = false) (hr : ρ[i]? = some (some d)) (hq : ∀ v, Rep K.C w d v → Q v w.s) : wpAny M A (loadName K.env x) Q E w.s := by
  rcases hk with hk | hk
  · obtain ⟨lo, es, ep, lz, le, sk, lval⟩ := V.loc
    obtain ⟨v, a, b⟩ := lval i x d hi hk hr
    exact wpAny_loadName_local o.kind hk ⟨lo, es, ep, lz.is, le, sk, fun u0 => rfl⟩ a (hq v b)
  · obtain ⟨c, hcl⟩ := o.has x hk
    obtain ⟨co, ov, t, cz, ce, u1, u2, cval, u3⟩ := V.cel x c hcl
    obtain ⟨v, rfl, b⟩ := cval i d hi hk hr
    rcases hk with hk | hk
    · exact wpAny_loadName_cell o.kind hk hcl ⟨co, cz.is, ce⟩ (hq v b)
    · exact wpAny_loadName_free o.kind hk hcl ⟨co, cz.is, ce⟩ (hq v b) hx
end
end Mine
end
section
open PySem PySem.W PyProof.Rows
namespace Mine
noncomputable abbrev Cx.M (C : Cx) : Model := model C.prog C.w
theorem Rm.room {k : Nat} {A : Around} (h : Rm k A) : A.depth < recursionLimit := Nat.lt_of_le_of_lt (Nat.le_add_right _ _) h.depth
theorem Rm.unit64 {k : Nat} {A : Around} (h : Rm k A) : A.units + 64 < cLine := by have := h.units; omega
theorem Rm.unit {k : Nat} {A : Around} (h : Rm k A) : A.units < cLine := Nat.lt_of_le_of_lt (Nat.le_add_right _ _) h.unit64
theorem Rm.in1 {k : Nat} {A : Around} (h : Rm (k + 1) A) : Rm k A.in1 := ⟨h.handled, by have := h.depth; show A.depth + k < _; omega, by have := h.units; show A.units + 1 + 10 * k + 100 < _; omega⟩
theorem Rm.deeper {k : Nat} {A : Around} (h : Rm (k + 1) A) (env : Env) : Rm k (A.deeper env) := ⟨h.handled, by have := h.depth; show A.depth + 1 + k < _; omega, by have := h.units; show A.units + 3 + 10 * k + 100 < _; omega⟩
inductive Out (C : Cx) (w : W) (σ : St) (d : D) (v : Value) : Shared → Prop
  | mk (w' : W) (x : Step NoF w w') (I : Inv C σ w') (r : Rep C w' d v) : Out C w σ d v w'.s
inductive OutL (C : Cx) (w : W) (σ : St) (l : List D) (vs : List Value) : Shared → Prop
  | mk (w' : W) (x : Step NoF w w') (I : Inv C σ w') (r : RepL C w' l vs) : OutL C w σ l vs w'.s
inductive OutB (C : Cx) (w : W) (σ : St) (b : Bool) : Bool → Shared → Prop
  | mk (w' : W) (x : Step NoF w w') (I : Inv C σ w') : OutB C w σ b b w'.s
section
variable {C : Cx} {w w' : W} {σ : St} {d : D} {v : Value} {l m : List D} {vs ws : List Value} {h : Heap} {t : Tok}
theorem grow_chg (hk : ∀ b o, w.s.heap.get? b = some o → h.get? b = some o) : Chg NoX w (w.put [] .fz h t []) := .put fun u0 u0 b o z => ⟨List.not_mem_nil, hk b o z.is⟩
theorem Step.grow {F : Addr → Prop} (hk : ∀ b o, w.s.heap.get? b = some o → h.get? b = some o) : Step F w (w.put [] .fz h t []) := (grow_chg hk).step id fun u0 q => q.elim
theorem Inv.grow (I : Inv C σ w) (hk : ∀ b o, w.s.heap.get? b = some o → h.get? b = some o) : Inv C σ (w.put [] .fz h t []) := I.put (grow_chg hk) id (fun u0 => id) (fun u0 m => nomatch m) (fun b ⟨o, e⟩ => ⟨o, hk b o e⟩) (fun u0 m => nomatch m) (fun u0 e => nomatch e) fun u0 e => nomatch e
theorem out_here (I : Inv C σ w) (r : Rep C w d v) : Out C w σ d v w.s := ⟨w, .refl _ _, I, r⟩
theorem Out.after (x : Step NoF w w') {s : Shared} : Out C w' σ d v s → Out C w σ d v s
  | ⟨w₂, a, b, c⟩ => ⟨w₂, x.trans a, b, c⟩
theorem OutL.after (x : Step NoF w w') {s : Shared} : OutL C w' σ l vs s → OutL C w σ l vs s
  | ⟨w₂, a, b, c⟩ => ⟨w₂, x.trans a, b, c⟩
theorem OutB.after (x : Step NoF w w') {b c : Bool} {s : Shared} : OutB C w' σ b c s → OutB C w σ b c s
  | ⟨w₂, a, e⟩ => ⟨w₂, x.trans a, e⟩
theorem out_toks (I : Inv C σ w) (r : ∀ w' : W, Mono w w' → Rep C w' d v) (t : Tok) : Out C w σ d v { w.s with toks := t } :=
  ⟨w.put [] .fz w.s.heap t [], .grow fun u0 u0 e => e, I.grow fun u0 u0 e => e, r _ (Step.grow (F := NoF) fun u0 u0 e => e).toMono⟩
theorem out_int (I : Inv C σ w) (i : Int) (k t : Tok) : Out C w σ (.int i) (.int i k) { w.s with toks := t } := out_toks (d := .int i) (v := .int i k) I (fun u0 u0 => ⟨k, rfl⟩) t
theorem out_str (I : Inv C σ w) (i : Str) (k t : Tok) : Out C w σ (.str i) (.str i k) { w.s with toks := t } := out_toks (d := .str i) (v := .str i k) I (fun u0 u0 => ⟨k, rfl⟩) t
theorem out_bool (I : Inv C σ w) (b : Bool) (t : Tok) : Out C w σ (.bool b) (.bool b) { w.s with toks := t } := out_toks (d := .bool b) (v := .bool b) I (fun u0 u0 => rfl) t
theorem out_rep (I : Inv C σ w) (r : Rep C w d v) (t : Tok) : Out C w σ d v { w.s with toks := t } := out_toks I (fun u0 M => Rep.mono M d v r) t
theorem outB_toks (I : Inv C σ w) (b : Bool) (t : Tok) : OutB C w σ b b { w.s with toks := t } := ⟨w.put [] .fz w.s.heap t [], .grow fun u0 u0 e => e, I.grow fun u0 u0 e => e⟩
theorem RepL.length : ∀ {l : List D} {vs : List Value}, RepL C w l vs → vs.length = l.length
  | [], _, r => congrArg _ r
  | _ :: _, _, ⟨_, _, _, b⟩ => congrArg (· + 1) (RepL.length b)
theorem RepL.get : ∀ {l : List D} {vs : List Value}, RepL C w l vs → ∀ {i : Nat} {d : D}, l[i]? = some d → ∃ v, vs[i]? = some v ∧ Rep C w d v
  | [], _, _, _, _, e => nomatch e
  | _ :: _, _, ⟨v, _, a, _⟩, 0, _, e => by cases e; exact ⟨v, rfl, a⟩
  | _ :: _, _, ⟨_, _, _, b⟩, i + 1, _, e => RepL.get b e
theorem RepL.append : ∀ {l m : List D} {vs ws : List Value}, RepL C w l vs → RepL C w m ws → RepL C w (l ++ m) (vs ++ ws)
  | [], _, _, _, r, q => by cases r; exact q
  | _ :: _, _, _, _, ⟨v, _, a, b⟩, q => ⟨v, _, a, RepL.append b q⟩
theorem RepL.take : ∀ {l : List D} {vs : List Value} (n : Nat), RepL C w l vs → RepL C w (l.take n) (vs.take n)
  | [], _, n, r => by cases r; rw [List.take_nil, List.take_nil]; rfl
  | _ :: _, _, 0, _ => rfl
  | _ :: _, _, n + 1, ⟨v, _, a, b⟩ => ⟨v, _, a, RepL.take n b⟩
theorem RepL.drop : ∀ {l : List D} {vs : List Value} (n : Nat), RepL C w l vs → RepL C w (l.drop n) (vs.drop n)
  | [], _, n, r => by cases r; rw [List.drop_nil, List.drop_nil]; rfl
  | _ :: _, _, 0, r => r
  | _ :: _, _, n + 1, ⟨_, _, _, b⟩ => RepL.drop n b
theorem RepL.pick (r : RepL C w l vs) : ∀ (is : List Nat), RepL C w (is.filterMap (l[·]?)) (is.filterMap (vs[·]?))
  | [] => rfl
  | i :: is => by
    cases q : l[i]? with
    | none =>
      rw [List.filterMap_cons, q, List.filterMap_cons, List.getElem?_eq_none_iff.mpr (r.length ▸ List.getElem?_eq_none_iff.mp q)]; exact RepL.pick r is
    | some d =>
      obtain ⟨v, e, a⟩ := r.get q
      rw [List.filterMap_cons, q, List.filterMap_cons, e]; exact ⟨v, _, a, RepL.pick r is⟩
theorem out_seq (I : Inv C σ w) (T : String) (t : Tok) (r : RepL C w l vs) (hr : ∀ w' a, HSeq w' .fz T (RepL C w' l) a → Rep C w' d (.ref a)) : Out C w σ d (.ref w.s.heap.objs.size) { w.s with heap := w.s.heap.push (seqObj T vs 0), toks := t } :=
  have hk : ∀ b o, w.s.heap.get? b = some o → (w.s.heap.push (seqObj T vs 0)).get? b = some o := fun u0 u0 e => Heap.get?_push_of_some _ e
  have x : Step NoF w (w.put [] .fz (w.s.heap.push (seqObj T vs 0)) t []) := .grow hk
  ⟨_, x, I.grow hk, hr _ _ ⟨vs, 0, ⟨I.dead _ (dead_of fun ⟨_, q⟩ => Nat.lt_irrefl _ (Heap.lt_size q)), Heap.get?_push_size _ rfl⟩, x.repL r⟩⟩
theorem out_list (I : Inv C σ w) (t : Tok) (r : RepL C w l vs) : Out C w σ (.lst l) (.ref w.s.heap.objs.size) { w.s with heap := w.s.heap.push (seqObj "list" vs 0), toks := t } := out_seq I _ t r fun u0 a z => ⟨a, z⟩
theorem out_tup (I : Inv C σ w) (t : Tok) (r : RepL C w l vs) : Out C w σ (.tup l) (.ref w.s.heap.objs.size) { w.s with heap := w.s.heap.push (seqObj "tuple" vs 0), toks := t } := out_seq I _ t r fun u0 a z => ⟨a, z⟩
inductive IsL (σ : St) : D → List D → Prop
  | z (l : List D) : IsL σ (.lst l) l
  | o {n : Nat} {l : List D} (h : σ[n]? = some (.lst l)) : IsL σ (.loc n) l
inductive IsS (σ : St) : D → List (Str × D) → Prop
  | z (l : List (Str × D)) : IsS σ (.ds l) l
  | o {n : Nat} {l : List (Str × D)} (h : σ[n]? = some (.ds l)) : IsS σ (.loc n) l
inductive IsI (σ : St) : D → List (Int × D) → Prop
  | z (l : List (Int × D)) : IsI σ (.di l) l
  | o {n : Nat} {l : List (Int × D)} (h : σ[n]? = some (.di l)) : IsI σ (.loc n) l
theorem IsL.at (q : IsL σ d l) (I : Inv C σ w) (r : Rep C w d v) : ∃ t, HRef (HSeq w t "list" (RepL C w l)) v := match q, r with
  | .z _, r => ⟨_, r⟩
  | .o h, ⟨a, e, q⟩ => ⟨_, by rw [q]; exact ⟨a, I.ok _ _ _ h e⟩⟩
theorem IsS.at {l : List (Str × D)} (q : IsS σ d l) (I : Inv C σ w) (r : Rep C w d v) : ∃ t, HRef (HDict w t (IsDs C) (RepS C w l)) v := match q, r with
  | .z _, r => ⟨_, r⟩
  | .o h, ⟨a, e, q⟩ => ⟨_, by rw [q]; exact ⟨a, I.ok _ _ _ h e⟩⟩
theorem IsI.at {l : List (Int × D)} (q : IsI σ d l) (I : Inv C σ w) (r : Rep C w d v) : ∃ t, HRef (HDict w t (IsDi C) (RepI C w l)) v := match q, r with
  | .z _, r => ⟨_, r⟩
  | .o h, ⟨a, e, q⟩ => ⟨_, by rw [q]; exact ⟨a, I.ok _ _ _ h e⟩⟩
end
end Mine
end
section
open PySem PySem.W PyProof.Rows
namespace Mine
theorem sizeLine_is : sizeLine = 16777216 := by decide
theorem foldl_app (l : List (Array Nat)) : ∀ acc : Array Nat, (l.foldl (· ++ ·) acc).toList = acc.toList ++ (l.map Array.toList).flatten := by
  induction l with
  | nil => intro acc; exact (List.append_nil _).symm
  | cons a r ih => intro acc; rw [List.foldl_cons, ih, Array.toList_append, List.append_assoc]; rfl
noncomputable def BinOk (op : Operator) (a b d : D) : Prop := ∀ ⦃C : Cx⦄ ⦃A : Around⦄ ⦃σ : St⦄ ⦃w : W⦄ ⦃va vb : Value⦄ ⦃E : Value → Shared → Prop⦄, Inv C σ w → Rep C w a va → Rep C w b vb → wpAny C.M A (binaryOp op va vb) (Out C w σ d) E w.s
section
variable {i j : Int} {x y : Str}
theorem noPy (h : j.natAbs < 2 ^ 63) : Builtin.divisionGoesByPylong i j = false := by
  refine PyProof.noPylong_of_log2 ?_
  by_cases h0 : j.natAbs = 0
  · rw [h0]; decide
  · exact Nat.lt_of_lt_of_le ((Nat.log2_lt h0).mpr h) (by decide)
theorem bin_add : BinOk .Add (.int i) (.int j) (.int (i + j)) := fun u0 u0 u0 u0 u0 u0 u0 I ⟨_, e⟩ ⟨_, e'⟩ => by subst e e'; exact PyProof.Rows.add_int (out_int I _ _ _)
theorem bin_sub : BinOk .Sub (.int i) (.int j) (.int (i - j)) := fun u0 u0 u0 u0 u0 u0 u0 I ⟨_, e⟩ ⟨_, e'⟩ => by subst e e'; exact PyProof.Rows.sub_int (out_int I _ _ _)
theorem bin_mul (h : i.natAbs < 2 ^ 63 ∨ j.natAbs < 2 ^ 63) : BinOk .Mult (.int i) (.int j) (.int (i * j)) := fun u0 u0 u0 u0 u0 u0 u0 I ⟨_, e⟩ ⟨_, e'⟩ => by
  subst e e'; exact PyProof.Rows.mul_int (out_int I _ _ _) (h.elim (fun h => .of_left (intBits_le_64 (by omega) (by omega))) fun h => .of_right (intBits_le_64 (by omega) (by omega)))
theorem bin_fdiv (h : j ≠ 0) (h' : j.natAbs < 2 ^ 63) : BinOk .FloorDiv (.int i) (.int j) (.int (i.fdiv j)) := fun u0 u0 u0 u0 u0 u0 u0 I ⟨_, e⟩ ⟨_, e'⟩ => by subst e e'; exact PyProof.Rows.floordiv_int h (out_int I _ _ _) (.inl (noPy h'))
theorem bin_fmod (h : j ≠ 0) : BinOk .Mod (.int i) (.int j) (.int (i.fmod j)) := fun u0 u0 u0 u0 u0 u0 u0 I ⟨_, e⟩ ⟨_, e'⟩ => by subst e e'; exact PyProof.Rows.mod_int' h (out_int I _ _ _)
theorem bin_pow (h : i.natAbs < 2 ^ 63) (h0 : 0 ≤ j) (h1 : j ≤ 1000) : BinOk .Pow (.int i) (.int j) (.int (i ^ j.toNat)) := fun u0 u0 u0 u0 u0 u0 u0 I ⟨_, e⟩ ⟨_, e'⟩ => by subst e e'; exact PyProof.Rows.pow_int_small h0 (by omega) (Nat.lt_trans h (by decide)) (out_int I _ _ _)
theorem bin_shl (h : i.natAbs < 2 ^ 63) (h0 : 0 ≤ j) (h1 : j ≤ 1000) : BinOk .LShift (.int i) (.int j) (.int (i * 2 ^ j.toNat)) := fun u0 u0 u0 u0 u0 u0 u0 I ⟨_, e⟩ ⟨_, e'⟩ => by subst e e'; exact PyProof.Rows.lshift_int_small h0 (by omega) (Nat.lt_trans h (by decide)) (out_int I _ _ _)
theorem bin_shr (h0 : 0 ≤ j) : BinOk .RShift (.int i) (.int j) (.int (i.fdiv (2 ^ j.toNat))) := fun u0 u0 u0 u0 u0 u0 u0 I ⟨_, e⟩ ⟨_, e'⟩ => by subst e e'; exact PyProof.Rows.rshift_int h0 (out_int I _ _ _)
theorem bin_and : BinOk .BitAnd (.int i) (.int j) (.int (Builtin.bitAnd i j)) := fun u0 u0 u0 u0 u0 u0 u0 I ⟨_, e⟩ ⟨_, e'⟩ => by subst e e'; exact PyProof.Rows.and_int (out_int I _ _ _)
theorem bin_xor : BinOk .BitXor (.int i) (.int j) (.int (Builtin.bitXor i j)) := fun u0 u0 u0 u0 u0 u0 u0 I ⟨_, e⟩ ⟨_, e'⟩ => by subst e e'; exact PyProof.Rows.xor_int (out_int I _ _ _)
theorem bin_adds (h : x.length + y.length ≤ 16777216) : BinOk .Add (.str x) (.str y) (.str (x ++ y)) := fun u0 u0 u0 u0 u0 u0 u0 I ⟨_, e⟩ ⟨_, e'⟩ => by subst e e'; exact PyProof.Rows.add_str (fun u0 u0 => out_str I _ _ _) (by rw [sizeLine_is]; exact h)
theorem bin_addl {a b : List D} (h : a.length + b.length ≤ 16777216) : BinOk .Add (.lst a) (.lst b) (.lst (a ++ b)) := fun u0 u0 u0 u0 u0 u0 u0 I ⟨_, vs, n, z, r⟩ ⟨_, ws, m, z', r'⟩ =>
  PySem.P.add_list (items := vs.toArray) (items2 := ws.toArray) z.is z'.is (by rw [List.append_toArray]; exact out_list I _ (r.append r')) (by rw [sizeLine_is, List.size_toArray, List.size_toArray, r.length, r'.length]; exact h)
noncomputable def reps (n : Nat) (x : Str) : Str := ⟨(List.replicate n x.cps.toList).flatten.toArray⟩
theorem bin_muls (h : x.length = 1) (h0 : 0 ≤ j) (h1 : j ≤ 1000) : BinOk .Mult (.str x) (.int j) (.str (reps j.toNat x)) := fun u0 u0 u0 u0 u0 u0 u0 I ⟨_, e⟩ ⟨_, e'⟩ => by
  subst e e'
  have hn : j.toNat ≤ 1000 := by omega
  have hs : x.length * j.toNat = j.toNat := by rw [h, Nat.one_mul]
  have key : (⟨(List.replicate j.toNat x.cps).foldl (· ++ ·) #[]⟩ : Str) = reps j.toNat x := congrArg Str.mk (Array.toList_inj.mp (by rw [foldl_app]; simp))
  have len : (reps j.toNat x).length ≤ sizeLine := by
    rw [sizeLine_is]; show (List.replicate j.toNat x.cps.toList).flatten.toArray.size ≤ _
    rw [List.size_toArray, List.length_flatten, List.map_replicate, List.sum_replicate_nat, show x.cps.toList.length = 1 from h, Nat.mul_one]; omega
  refine PySem.P.mul_str (by simp; omega) (fun u0 u0 => ?_) (fun u0 u0 => decide_eq_false (by rw [sizeLine_is]; show ¬ x.length * _ > _; omega)) ?_
  · have := Int.le_ediv_of_mul_le (a := 1000) (b := 2 ^ 63 - 1) (c := j) (by omega) (by omega)
    omega
  · split
    · rename_i h1
      refine ⟨by rw [sizeLine_is]; decide, ?_⟩
      rw [show (Str.empty : Str) = reps j.toNat x by rw [show j.toNat = 0 by omega]; rfl]; exact out_str I _ _ _
    · split
      · rename_i h1 h2
        simp only [Bool.or_eq_true, beq_iff_eq] at h2
        have e : x = reps j.toNat x := by
          rcases h2 with h2 | h2
          · subst h2; cases x; simp [reps]
          · rw [h2] at h; cases h
        exact out_here I ⟨_, by rw [← e]⟩
      · rw [key]; exact ⟨len, out_str I _ _ _⟩
end
end Mine
end
section
open PySem PySem.W PyProof.Rows
namespace Mine
noncomputable def Rd (σ : St) (d : D) (p : PyData) : Prop := ∀ ⦃C : Cx⦄ ⦃w : W⦄ ⦃v : Value⦄, Inv C σ w → Rep C w d v → ∃ as, Reads w.s.heap v p as
noncomputable def RdL (σ : St) (l : List D) (ps : List PyData) : Prop := ∀ ⦃C : Cx⦄ ⦃w : W⦄ ⦃vs : List Value⦄, Inv C σ w → RepL C w l vs → ∃ as, ReadsAll w.s.heap vs ps as
section
variable {σ : St} {d : D} {p : PyData} {l : List D} {ps : List PyData}
theorem rd_int {i : Int} : Rd σ (.int i) (.int i) := fun u0 u0 u0 u0 ⟨t, e⟩ => e ▸ ⟨_, .int i t⟩
theorem rd_str {i : Str} : Rd σ (.str i) (.str i) := fun u0 u0 u0 u0 ⟨t, e⟩ => e ▸ ⟨_, .str i t⟩
theorem rdL_nil : RdL σ [] [] := fun u0 u0 u0 u0 r => by cases r; exact ⟨_, .nil⟩
theorem rdL_cons (a : Rd σ d p) (b : RdL σ l ps) : RdL σ (d :: l) (p :: ps) := fun u0 u0 u0 I ⟨_, _, x, y⟩ => let ⟨_, p⟩ := a I x; let ⟨_, q⟩ := b I y; ⟨_, .cons p q⟩
theorem rdL_map {α : Type} {f : α → D} {g : α → PyData} : ∀ {l : List α}, (∀ x ∈ l, Rd σ (f x) (g x)) → RdL σ (l.map f) (l.map g)
  | [], _ => rdL_nil
  | _ :: _, h => rdL_cons (h _ (.head _)) (rdL_map fun x m => h x (.tail _ m))
theorem rd_tup (a : RdL σ l ps) : Rd σ (.tup l) (.tuple ps) := fun u0 u0 u0 I ⟨_, _, _, z, r⟩ => let ⟨_, q⟩ := a I r; ⟨_, reads_tuple_at z.is rfl rfl (by rw [List.toList_toArray]; exact q)⟩
theorem rd_lst {a : D} (i : IsL σ a l) (q : RdL σ l ps) : Rd σ a (.list ps) := fun u0 u0 u0 I r => by
  obtain ⟨u1, u2, u3, u4, z, r⟩ := i.at I r
  obtain ⟨u1, q⟩ := q I r
  exact ⟨_, reads_list_at z.is rfl rfl (by rw [List.toList_toArray]; exact q)⟩
end
inductive OnB (c : Bool) (w : W) : Value → Shared → Prop
  | mk (t : Tok) : OnB c w (.bool c) { w.s with toks := t }
noncomputable def CmpOk (σ : St) (op : CmpOp) (a b : D) (c : Bool) : Prop := ∀ ⦃C : Cx⦄ ⦃A : Around⦄ ⦃w : W⦄ ⦃va vb : Value⦄ ⦃E : Value → Shared → Prop⦄, A.units + 64 < cLine → Inv C σ w → Rep C w a va → Rep C w b vb → wpAny C.M A (compareOp op va vb) (OnB c w) E w.s
section
variable {σ : St} {i j : Int} {x y : Str} {a b : D} {p q : PyData}
theorem cmp_lt : CmpOk σ .Lt (.int i) (.int j) (decide (i < j)) := fun u0 u0 u0 u0 u0 u0 u0 I ⟨_, e⟩ ⟨_, e'⟩ => by subst e e'; exact PySem.P.lt_int ⟨_⟩
theorem cmp_gt : CmpOk σ .Gt (.int i) (.int j) (decide (i > j)) := fun u0 u0 u0 u0 u0 u0 u0 I ⟨_, e⟩ ⟨_, e'⟩ => by subst e e'; exact PySem.P.gt_int ⟨_⟩
theorem cmp_le : CmpOk σ .LtE (.int i) (.int j) (decide (i ≤ j)) := fun u0 u0 u0 u0 u0 u0 u0 I ⟨_, e⟩ ⟨_, e'⟩ => by subst e e'; exact PySem.P.le_int ⟨_⟩
theorem cmp_lts : CmpOk σ .Lt (.str x) (.str y) (decide (x.cps.toList < y.cps.toList)) := fun u0 u0 u0 u0 u0 u0 u0 I ⟨_, e⟩ ⟨_, e'⟩ => by subst e e'; exact PySem.P.lt_str ⟨_⟩
theorem cmp_gts : CmpOk σ .Gt (.str x) (.str y) (decide (y.cps.toList < x.cps.toList)) := fun u0 u0 u0 u0 u0 u0 u0 I ⟨_, e⟩ ⟨_, e'⟩ => by subst e e'; exact PySem.P.gt_str ⟨_⟩
theorem cmp_eqi : CmpOk σ .Eq (.int i) (.int j) (i == j) := fun u0 u0 u0 u0 u0 u0 u0 I ⟨_, e⟩ ⟨_, e'⟩ => by subst e e'; exact PyProof.Rows.eq_int ⟨_⟩
theorem cmp_nei : CmpOk σ .NotEq (.int i) (.int j) (!(i == j)) := fun u0 u0 u0 u0 u0 u0 u0 I ⟨_, e⟩ ⟨_, e'⟩ => by subst e e'; exact PyProof.Rows.ne_int ⟨_⟩
theorem cmp_eqs : CmpOk σ .Eq (.str x) (.str y) (x == y) := fun u0 u0 u0 u0 u0 u0 u0 I ⟨_, e⟩ ⟨_, e'⟩ => by subst e e'; exact PyProof.Rows.eq_str ⟨_⟩
theorem cmp_nes : CmpOk σ .NotEq (.str x) (.str y) (!(x == y)) := fun u0 u0 u0 u0 u0 u0 u0 I ⟨_, e⟩ ⟨_, e'⟩ => by subst e e'; exact PyProof.Rows.ne_str ⟨_⟩
theorem cmp_ins : CmpOk σ .In (.str x) (.str y) (!(Builtin.Str.occurrences y x 0 y.length 1).isEmpty) := fun u0 u0 u0 u0 u0 u0 u0 I ⟨_, e⟩ ⟨_, e'⟩ => by subst e e'; exact PySem.P.in_str ⟨_⟩
theorem cmp_eqd (ra : Rd σ a p) (rb : Rd σ b q) (sa : SeqAt.shaped p = true) (sb : SeqAt.shaped q = true) : CmpOk σ .Eq a b (PyData.eqv p q) := fun u0 u0 u0 u0 u0 u0 u I r r' => let ⟨_, x⟩ := ra I r; let ⟨_, y⟩ := rb I r'; eq_dataH x y sa sb u ⟨_⟩
theorem cmp_ned (ra : Rd σ a p) (rb : Rd σ b q) (sa : SeqAt.shaped p = true) (sb : SeqAt.shaped q = true) : CmpOk σ .NotEq a b (!PyData.eqv p q) := fun u0 u0 u0 u0 u0 u0 u I r r' => let ⟨_, x⟩ := ra I r; let ⟨_, y⟩ := rb I r'; ne_dataH x y sa sb u ⟨_⟩
theorem repL_strs {C : Cx} {w : W} : ∀ {ss : List Str} {vs : List Value}, RepL C w (ss.map .str) vs → ∃ ts : List (Str × Tok), ts.map (·.1) = ss ∧ vs = strValues ts
  | [], _, r => by cases r; exact ⟨[], rfl, rfl⟩
  | x :: _, _, ⟨_, _, ⟨t, e⟩, b⟩ => by
    obtain ⟨ts, e1, e2⟩ := repL_strs b
    subst e e1 e2; exact ⟨(x, t) :: ts, rfl, rfl⟩
theorem repL_ints {C : Cx} {w : W} : ∀ {ns : List Int} {vs : List Value}, RepL C w (ns.map .int) vs → IntsAre vs ns
  | [], _, r => by cases r; exact .nil
  | _ :: _, _, ⟨_, _, ⟨t, e⟩, b⟩ => by subst e; exact .cons _ _ (repL_ints b)
noncomputable def isStr (x : Str) : Value → Bool := fun v => match v with | .str y _ => y.cps.toList == x.cps.toList | _ => false
theorem strs_eqg {x : Str} {t : Tok} (ts : List (Str × Tok)) : ∀ y, y ∈ (strValues ts).toArray → PySem.MeetsSeq.EqGives y (.str x t) (isStr x y) := fun y hy => by
  obtain ⟨⟨z, u⟩, u1, rfl⟩ := List.mem_map.mp (List.mem_toArray.mp hy)
  exact PySem.SeqRoads2.EqGives.str z x u t
theorem strs_any (ts : List (Str × Tok)) (x : Str) : (strValues ts).toArray.any (isStr x) = (ts.map (·.1)).any (· == x) := by
  rw [List.any_toArray]
  induction ts with
  | nil => rfl
  | cons p r ih => exact congr (congrArg _ (by rw [Bool.eq_iff_iff]; show (p.1.cps.toList == x.cps.toList) = true ↔ _; rw [beq_iff_eq, beq_iff_eq]; exact ⟨fun q => by cases p with | mk y t => cases y; cases x; exact congrArg Str.mk (Array.toList_inj.mp q), fun q => congrArg (·.cps.toList) q⟩)) ih
theorem cmp_inl {ss : List Str} (i : IsL σ b (ss.map .str)) : CmpOk σ .In (.str x) b (ss.any (· == x)) := fun u0 u0 u0 u0 u0 u0 u0 I ⟨_, e⟩ r' => by
  obtain ⟨u1, u2, u3, u4, z, r⟩ := i.at I r'
  obtain ⟨ts, rfl, rfl⟩ := repL_strs r
  subst e; exact PySem.SeqRoads2.in_list _ (strs_eqg ts) z.is (by rw [strs_any]; exact ⟨_⟩)
theorem cmp_ninl {ss : List Str} (i : IsL σ b (ss.map .str)) : CmpOk σ .NotIn (.str x) b (!ss.any (· == x)) := fun u0 u0 u0 u0 u0 u0 u0 I ⟨_, e⟩ r' => by
  obtain ⟨u1, u2, u3, u4, z, r⟩ := i.at I r'
  obtain ⟨ts, rfl, rfl⟩ := repL_strs r
  subst e; exact PySem.SeqRoads2.notIn_list _ (strs_eqg ts) z.is (by rw [strs_any]; exact ⟨_⟩)
theorem ref_sys {a : Addr} (h : a ≠ sysModules) : (a == sysModules) = false := beq_false_of_ne h
noncomputable def RepK {κ : Type} (C : Cx) (w : W) : List (κ × D) → List (κ × Value) → Prop
  | [] => fun vs => vs = []
  | (k, d) :: l => HKV k (Rep C w d) (RepK C w l)
theorem repS_K {C : Cx} {w : W} : ∀ l, RepS C w l = RepK C w l
  | [] => rfl
  | (k, d) :: l => congrArg (HKV k (Rep C w d)) (repS_K l)
theorem repI_K {C : Cx} {w : W} : ∀ l, RepI C w l = RepK C w l
  | [] => rfl
  | (k, d) :: l => congrArg (HKV k (Rep C w d)) (repI_K l)
section
variable {κ : Type} [DecidableEq κ]
theorem valueAt_cons (j : κ) (v : Value) (r : List (κ × Value)) (k : κ) : valueAt ((j, v) :: r) k = if j = k then some v else valueAt r k := by
  unfold valueAt
  rw [List.find?_cons]
  by_cases q : j = k
  · rw [if_pos q, decide_eq_true q]; rfl
  · rw [if_neg q, decide_eq_false q]
theorem kget_K {C : Cx} {w : W} : ∀ {l : List (κ × D)} {kvs : List (κ × Value)} (k : κ), RepK C w l kvs → (kget l k = none ∧ valueAt kvs k = none) ∨ ∃ d v, kget l k = some d ∧ valueAt kvs k = some v ∧ Rep C w d v
  | [], _, _, r => by cases r; exact .inl ⟨rfl, rfl⟩
  | (j, d) :: l, _, k, ⟨v, r, a, b⟩ => by
    rw [valueAt_cons]
    show ((if j = k then some d else kget l k) = none ∧ _) ∨ ∃ d' v', (if j = k then some d else kget l k) = some d' ∧ _
    by_cases q : j = k
    · rw [if_pos q, if_pos q]; exact .inr ⟨d, v, rfl, rfl, a⟩
    · rw [if_neg q, if_neg q]; exact kget_K k b
end
theorem ds_mapOf {C : Cx} {w : W} {t : Tag} {a : Addr} {o : Obj} {kvs : List (Str × Value)} (z : At w t a o) (d : IsDs C o kvs) : w.s.heap.DictOf (strKind C.prog C.w) a kvs := Heap.dictOf_iff.mpr ⟨o, z.is, d⟩
theorem di_mapOf {C : Cx} {w : W} {t : Tag} {a : Addr} {o : Obj} {kvs : List (Int × Value)} (z : At w t a o) (d : IsDi C o kvs) : w.s.heap.DictOf (intKind C.prog C.w) a kvs := Heap.dictOf_iff.mpr ⟨o, z.is, d⟩
theorem cmp_ind {l : List (Str × D)} (i : IsS σ b l) : CmpOk σ .In (.str x) b (kget l x).isSome := fun u0 u0 u0 u0 u0 u0 u0 I ⟨_, e⟩ r' => by
  obtain ⟨u1, u2, o, kvs, ne, z, d, r⟩ := i.at I r'
  subst e
  refine wpAny_in_of (strKind_is _ _ _ _) (ref_sys ne) (ds_mapOf z d).mapOf ?_
  rcases kget_K x (repS_K l ▸ r) with ⟨e1, e2⟩ | ⟨_, _, e1, e2, _⟩ <;> rw [e1, e2] <;> exact ⟨_⟩
end
end Mine
end
section
open PySem PySem.W PyProof.Rows
namespace Mine
inductive OnT (c : Bool) (w : W) : Bool → Shared → Prop
  | mk (t : Tok) : OnT c w c { w.s with toks := t }
noncomputable def TruthOk (σ : St) (a : D) (c : Bool) : Prop := ∀ ⦃C : Cx⦄ ⦃A : Around⦄ ⦃w : W⦄ ⦃va : Value⦄ ⦃E : Value → Shared → Prop⦄, Inv C σ w → Rep C w a va → wpAny C.M A (truthy va) (OnT c w) E w.s
inductive OnV (C : Cx) (d : D) (w : W) (v : Value) : Shared → Prop
  | mk (t : Tok) (r : Rep C w d v) : OnV C d w v { w.s with toks := t }
noncomputable def IdxOk (σ : St) (a b d : D) : Prop := ∀ ⦃C : Cx⦄ ⦃A : Around⦄ ⦃w : W⦄ ⦃va vb : Value⦄ ⦃E : Value → Shared → Prop⦄, Inv C σ w → Rep C w a va → Rep C w b vb → ItemOn C.M A E va vb (OnV C d w) w.s
section
variable {σ : St} {a d : D} {l : List D} {i : Int} {x : Str} {j : Nat}
theorem truth_bool {b : Bool} : TruthOk σ (.bool b) b := fun u0 u0 u0 u0 u0 u0 e => by cases e; exact wpAny_truthy_bool ⟨_⟩
theorem truth_int : TruthOk σ (.int i) (i != 0) := fun u0 u0 u0 u0 u0 u0 ⟨_, e⟩ => by subst e; exact PySem.P.truthy_int ⟨_⟩
theorem truth_lst (q : IsL σ a l) (h : l.length ≤ 16777216) : TruthOk σ a (!l.isEmpty) := fun C u0 w u0 u0 I r => by
  obtain ⟨u1, p, vs, n, z, r⟩ := q.at I r
  have hl := r.length
  refine wpAny_truthy_list (items := vs.toArray) ⟨_, z.is, rfl, n, rfl⟩ (by rw [List.size_toArray]; omega) ?_
  rw [show (!vs.toArray.isEmpty) = !l.isEmpty by cases vs <;> cases l <;> first | rfl | cases hl]
  exact ⟨_⟩
theorem seqIndex_nat {j n : Nat} (h : j < n) : seqIndex? (j : Int) n = some j := by
  unfold seqIndex?
  rw [if_neg (Int.not_lt.mpr (Int.natCast_nonneg j)), if_pos (by rw [decide_eq_true (Int.natCast_nonneg j), decide_eq_true (Int.ofNat_lt.mpr h)]; rfl)]; rfl
theorem get_lt {α : Type} {l : List α} {x : α} (h : l[j]? = some x) : j < l.length := (List.getElem?_eq_some_iff.mp h).1
theorem idx_lst (q : IsL σ a l) (h : l[j]? = some d) (hj : j < 2 ^ 63) : IdxOk σ a (.int j) d := fun u0 u0 u0 u0 u0 u0 I r ⟨_, e⟩ => by
  subst e
  obtain ⟨u1, p, vs, n, z, r⟩ := q.at I r
  obtain ⟨v, h3, h4⟩ := r.get h
  exact ⟨_, _, F.slot_list_getitem.lookup, ⟨_, z.is, rfl⟩, wpAny_getItem_list (items := vs.toArray) ⟨_, z.is, rfl, n, rfl⟩ (Int.natCast_nonneg j) (by omega) (List.getElem?_toArray.trans h3) ⟨_, h4⟩⟩
theorem idx_last (q : IsL σ a (l ++ [d])) (h : l.length < 2 ^ 62) : IdxOk σ a (.int (-1)) d := fun u0 u0 u0 u0 u0 u0 I r ⟨_, e⟩ => by
  subst e
  obtain ⟨u1, p, vs, n, z, r⟩ := q.at I r
  have hl := r.length
  rw [List.length_append] at hl
  obtain ⟨v, h3, h4⟩ := r.get (i := l.length) (d := d) (by rw [List.getElem?_append_right (Nat.le_refl _), Nat.sub_self]; rfl)
  refine ⟨_, _, F.slot_list_getitem.lookup, ⟨_, z.is, rfl⟩, wpAny_getItem_list_neg (items := vs.toArray) ⟨_, z.is, rfl, n, rfl⟩ (by decide) (by rw [List.size_toArray, hl]; show -((l.length + 1 : Nat) : Int) ≤ _; omega) (by decide) ?_ ⟨_, h4⟩⟩
  rw [List.size_toArray, hl, show (-1 + ((l.length + [d].length : Nat) : Int)).toNat = l.length by show (-1 + ((l.length + 1 : Nat) : Int)).toNat = _; omega]
  exact List.getElem?_toArray.trans h3
theorem idx_tup (h : l[j]? = some d) (hj : j < 2 ^ 62) : IdxOk σ (.tup l) (.int j) d := fun u0 u0 u0 u0 u0 u0 I ⟨_, vs, n, z, r⟩ ⟨_, e⟩ => by
  subst e
  obtain ⟨v, h3, h4⟩ := r.get h
  exact ⟨_, _, F.slot_tuple_getitem.lookup, ⟨_, z.is, rfl⟩, PySem.P.getItem_tuple (items := vs.toArray) z.is (by omega) (by omega) (by rw [List.size_toArray, r.length]; exact seqIndex_nat (get_lt h)) (List.getElem?_toArray.trans h3) ⟨_, h4⟩⟩
theorem idx_str {c : Nat} (h : x.cps[j]? = some c) (hj : j < 2 ^ 62) : IdxOk σ (.str x) (.int j) (.str ⟨#[c]⟩) := fun u0 u0 u0 u0 u0 u0 I ⟨_, e⟩ ⟨_, e'⟩ => by
  subst e e'
  refine ⟨_, _, F.slot_str_getitem.lookup, typeIs_str _ _ _, PySem.P.getItem_str ?_ (by rw [seqIndex_nat (show j < x.length from (Array.getElem?_eq_some_iff.mp h).1)]; exact h) ⟨_, _, rfl⟩⟩
  rw [decide_eq_false (by omega), decide_eq_false (by omega)]; rfl
theorem idx_ds {l : List (Str × D)} (q : IsS σ a l) (h : kget l x = some d) : IdxOk σ a (.str x) d := fun u0 u0 u0 u0 u0 u0 I r ⟨_, e⟩ => by
  subst e
  obtain ⟨u1, u2, o, kvs, ne, z, dd, r⟩ := q.at I r
  rcases kget_K x (repS_K l ▸ r) with ⟨e1, _⟩ | ⟨_, v, e1, e2, r⟩
  · exact nomatch h.symm.trans e1
  · cases h.symm.trans e1; exact ⟨_, _, F.slot_dict_getitem.lookup, (ds_mapOf z dd).typeIs, wpAny_getItem_of (strKind_is _ _ _ _) (ds_mapOf z dd).mapOf e2 ⟨_, r⟩⟩
theorem idx_di {l : List (Int × D)} (q : IsI σ a l) (h : kget l i = some d) : IdxOk σ a (.int i) d := fun u0 u0 u0 u0 u0 u0 I r ⟨_, e⟩ => by
  subst e
  obtain ⟨u1, u2, o, kvs, ne, z, dd, r⟩ := q.at I r
  rcases kget_K i (repI_K l ▸ r) with ⟨e1, _⟩ | ⟨_, v, e1, e2, r⟩
  · exact nomatch h.symm.trans e1
  · cases h.symm.trans e1; exact ⟨_, _, F.slot_dict_getitem.lookup, (di_mapOf z dd).typeIs, wpAny_getItem_of (intKind_is _ _ _ _) (di_mapOf z dd).mapOf e2 ⟨_, r⟩⟩
end
end Mine
end
section
open PySem PySem.W PyProof.Rows
namespace Mine
structure Ok (K : Ctx) (ρ : Rho) (σ : St) (w : W) : Prop where
  o : KOk K
  I : Inv K.C σ w
  V : EnvOk K w ρ
structure Nx (K : Ctx) (ρ : Rho) (σ : St) (d : D) (w w' : W) (v : Value) : Prop where
  x : Step NoF w w'
  p : Ok K ρ σ w'
  r : Rep K.C w' d v
section
variable (K : Ctx) (ρ : Rho)
noncomputable def TE (t : Sem Value) (σ : St) (d : D) (σ' : St) : Prop := ∀ ⦃w : W⦄ ⦃E : Value → Shared → Prop⦄, Ok K ρ σ w → wpAny K.C.M K.A t (Out K.C w σ' d) E w.s
noncomputable def TL (t : Sem (List Value)) (σ : St) (l : List D) (σ' : St) : Prop := ∀ ⦃w : W⦄ ⦃E : Value → Shared → Prop⦄, Ok K ρ σ w → wpAny K.C.M K.A t (OutL K.C w σ' l) E w.s
noncomputable def TB (t : Sem Bool) (σ : St) (b : Bool) (σ' : St) : Prop := ∀ ⦃w : W⦄ ⦃E : Value → Shared → Prop⦄, Ok K ρ σ w → wpAny K.C.M K.A t (OutB K.C w σ' b) E w.s
end
section
variable {K : Ctx} {ρ : Rho} {σ σ' σ₁ σ₂ σ₃ : St} {d a b c : D} {w : W} {E : Value → Shared → Prop} {i : Nat} {x : Str} {pos : Pos}
theorem Ok.next (p : Ok K ρ σ w) {w' : W} (x : Step NoF w w') (I : Inv K.C σ' w') : Ok K ρ σ' w' := ⟨p.o, I, p.V.stepN p.o x⟩
theorem TE.go {t : Sem Value} (h : TE K ρ t σ d σ') (p : Ok K ρ σ w) {Q : Value → Shared → Prop} (hq : ∀ v w', Nx K ρ σ' d w w' v → Q v w'.s) : wpAny K.C.M K.A t Q E w.s :=
  wpAny_mono (h p) (fun v u0 ⟨w', x, I, r⟩ => hq v w' ⟨x, p.next x I, r⟩) fun u0 u0 e => e
theorem TL.go {t : Sem (List Value)} {l : List D} (h : TL K ρ t σ l σ') (p : Ok K ρ σ w) {Q : List Value → Shared → Prop} (hq : ∀ vs w', Step NoF w w' → Ok K ρ σ' w' → RepL K.C w' l vs → Q vs w'.s) : wpAny K.C.M K.A t Q E w.s :=
  wpAny_mono (h p) (fun vs u0 ⟨w', x, I, r⟩ => hq vs w' x (p.next x I) r) fun u0 u0 e => e
theorem TB.go {t : Sem Bool} {q : Bool} (h : TB K ρ t σ q σ') (p : Ok K ρ σ w) {Q : Bool → Shared → Prop} (hq : ∀ w', Step NoF w w' → Ok K ρ σ' w' → Q q w'.s) : wpAny K.C.M K.A t Q E w.s :=
  wpAny_mono (h p) (fun u0 u0 ⟨w', x, I⟩ => hq w' x (p.next x I)) fun u0 u0 e => e
theorem TE_none {kd} : TE K ρ (eval (.Constant .none kd pos) K.env) σ .none σ := fun u0 u0 p => wpAny_Constant_none (out_here p.I rfl)
theorem TE_bool {q : Bool} {kd} : TE K ρ (eval (.Constant (.bool q) kd pos) K.env) σ (.bool q) σ := fun u0 u0 p => wpAny_Constant_bool (out_here p.I rfl)
theorem TE_int {i : Int} {kd} : TE K ρ (eval (.Constant (.int i) kd pos) K.env) σ (.int i) σ := fun u0 u0 p => wpAny_Constant_int (out_int p.I i _ _)
theorem TE_str {kd} : TE K ρ (eval (.Constant (.str x) kd pos) K.env) σ (.str x) σ := fun u0 u0 p => wpAny_Constant_str (out_str p.I x _ _)
noncomputable def Fd.var (f : Fd) (i : Nat) (x : Str) : Bool := f.ns[i]? == some x && (f.scope.names.lookup x == some .local || f.scope.names.lookup x == some .cell || f.scope.names.lookup x == some .free) && !(x == ("__classdict__" : Str)) && !(x == ("__debug__" : Str))
theorem KOk.kd (o : KOk K) (x : Str) : K.env.kindOf x = K.fd.scope.names.lookup x := congrArg (fun s : Scope => s.names.lookup x) o.scope
theorem TE_var (h : K.fd.var i x = true) (hr : ρ[i]? = some (some d)) : TE K ρ (eval (.Name x pos) K.env) σ d σ := fun u0 u0 p => by
  unfold Fd.var at h
  rw [Bool.and_eq_true, Bool.and_eq_true, Bool.and_eq_true, Bool.or_eq_true, Bool.or_eq_true, Bool.not_eq_true', Bool.not_eq_true', beq_iff_eq, beq_iff_eq, beq_iff_eq, beq_iff_eq, ← p.o.kd, or_assoc] at h
  exact wpAny_Name (load_ok p.o p.V h.1.1.1 h.1.1.2 h.1.2 hr fun v r => out_here p.I r) h.2
theorem TE_bin {op l r} (hl : TE K ρ (eval l K.env) σ a σ₁) (hr : TE K ρ (eval r K.env) σ₁ b σ₂) (h : BinOk op a b d) : TE K ρ (eval (.BinOp l op r pos) K.env) σ d σ₂ := fun u0 u0 p =>
  wpAny_BinOp (hl.go p fun va w1 n1 => hr.go n1.p fun vb w2 n2 => wpAny_mono (h n2.p.I (n2.x.rep n1.r) n2.r) (fun v s' o => o.after (n1.x.trans n2.x)) fun u0 u0 e => e)
theorem TE_neg {e} {i : Int} (hx : TE K ρ (eval e K.env) σ (.int i) σ₁) : TE K ρ (eval (.UnaryOp .USub e pos) K.env) σ (.int (-i)) σ₁ := fun u0 u0 p =>
  wpAny_UnaryOp (hx.go p fun va w1 ⟨x, p1, _, e⟩ => by subst e; exact PySem.P.neg_int ((out_int p1.I _ _ _).after x))
theorem TE_cmp {op l r} {q : Bool} (hl : TE K ρ (eval l K.env) σ a σ₁) (hr : TE K ρ (eval r K.env) σ₁ b σ₂) (h : CmpOk σ₂ op a b q) (hm : behindInMarks op r = false) : TE K ρ (eval (.Compare l [op] [r] pos) K.env) σ (.bool q) σ₂ := fun u0 u0 p =>
  wpAny_Compare1 (hl.go p fun va w1 n1 => hr.go n1.p fun vb w2 n2 => wpAny_mono (h p.o.room.unit64 n2.p.I (n2.x.rep n1.r) n2.r) (fun u0 u0 ⟨t⟩ => (out_bool n2.p.I q t).after (n1.x.trans n2.x)) fun u0 u0 e => e) hm
theorem TB_cmp {op l r whole} {q : Bool} (hl : TE K ρ (eval l K.env) σ a σ₁) (hr : TE K ρ (eval r K.env) σ₁ b σ₂) (h : CmpOk σ₂ op a b q) (hm : behindInMarks op r = false) : TB K ρ (isTrue (.Compare l [op] [r] pos) K.env whole) σ q σ₂ := fun u0 u0 p =>
  wpAny_isTrue_Compare1 (hl.go p fun va w1 n1 => hr.go n1.p fun vb w2 n2 => wpAny_mono (h p.o.room.unit64 n2.p.I (n2.x.rep n1.r) n2.r) (fun u0 u0 ⟨t⟩ => wpAny_truthy_bool ((outB_toks n2.p.I q t).after (n1.x.trans n2.x))) fun u0 u0 e => e) hm
theorem TB_not {e whole} {q : Bool} (hx : TB K ρ (isTrue e K.env (eval e K.env)) σ q σ₁) : TB K ρ (isTrue (.UnaryOp .Not e pos) K.env whole) σ (!q) σ₁ := fun u0 u0 p =>
  wpAny_isTrue_Not (hx.go p fun w1 x1 p1 => ⟨w1, x1, p1.I⟩)
theorem TB_value {e : Expr} {q : Bool} (he : TE K ρ (eval e K.env) σ d σ₁) (h : TruthOk σ₁ d q) (hw : isTrue e K.env (eval e K.env) = (do let v ← eval e K.env; standAt e.pos; holding [v] (truthy v)) := by rfl) : TB K ρ (isTrue e K.env (eval e K.env)) σ q σ₁ := fun u0 u0 p =>
  wpAny_isTrue_value (he.go p fun v w1 n1 => wpAny_mono (h n1.p.I n1.r) (fun u0 u0 ⟨t⟩ => (outB_toks n1.p.I q t).after n1.x) fun u0 u0 e => e) hw
theorem TB_boolop {op values whole} {q : Bool} (h : TB K ρ (allTrue op values K.env) σ q σ₁) : TB K ρ (isTrue (.BoolOp op values pos) K.env whole) σ q σ₁ := fun u0 u0 p => wpAny_isTrue_BoolOp (h p)
theorem TB_and_nil : TB K ρ (allTrue .And [] K.env) σ true σ := fun w u0 p => wpAny_allTrue_And_nil ⟨w, .refl _ _, p.I⟩
theorem TB_or_nil : TB K ρ (allTrue .Or [] K.env) σ false σ := fun w u0 p => wpAny_allTrue_Or_nil ⟨w, .refl _ _, p.I⟩
theorem TB_and_t {l : List Expr} {e : Expr} {q : Bool} (hx : TB K ρ (isTrue e K.env (eval e K.env)) σ true σ₁) (hl : TB K ρ (allTrue .And l K.env) σ₁ q σ₂) : TB K ρ (allTrue .And (e :: l) K.env) σ q σ₂ := fun u0 u0 p =>
  wpAny_allTrue_And_cons (hx.go p fun w1 x1 p1 => wpAny_mono (hl p1) (fun u0 u0 o => o.after x1) fun u0 u0 e => e)
theorem TB_and_f {l : List Expr} {e : Expr} (hx : TB K ρ (isTrue e K.env (eval e K.env)) σ false σ₁) : TB K ρ (allTrue .And (e :: l) K.env) σ false σ₁ := fun u0 u0 p =>
  wpAny_allTrue_And_cons (hx.go p fun w1 x1 p1 => ⟨w1, x1, p1.I⟩)
theorem TB_or_f {l : List Expr} {e : Expr} {q : Bool} (hx : TB K ρ (isTrue e K.env (eval e K.env)) σ false σ₁) (hl : TB K ρ (allTrue .Or l K.env) σ₁ q σ₂) : TB K ρ (allTrue .Or (e :: l) K.env) σ q σ₂ := fun u0 u0 p =>
  wpAny_allTrue_Or_cons (hx.go p fun w1 x1 p1 => wpAny_mono (hl p1) (fun u0 u0 o => o.after x1) fun u0 u0 e => e)
theorem TB_or_t {l : List Expr} {e : Expr} (hx : TB K ρ (isTrue e K.env (eval e K.env)) σ true σ₁) : TB K ρ (allTrue .Or (e :: l) K.env) σ true σ₁ := fun u0 u0 p =>
  wpAny_allTrue_Or_cons (hx.go p fun w1 x1 p1 => ⟨w1, x1, p1.I⟩)
theorem TE_ite_t {t y z} (ht : TB K ρ (isTrue t K.env (eval t K.env)) σ true σ₁) (h : TE K ρ (eval y K.env) σ₁ d σ₂) : TE K ρ (eval (.IfExp t y z pos) K.env) σ d σ₂ := fun u0 u0 p =>
  wpAny_IfExp (ht.go p fun w1 x1 p1 => wpAny_mono (h p1) (fun u0 u0 o => o.after x1) fun u0 u0 e => e)
theorem TE_ite_f {t y z} (ht : TB K ρ (isTrue t K.env (eval t K.env)) σ false σ₁) (h : TE K ρ (eval z K.env) σ₁ d σ₂) : TE K ρ (eval (.IfExp t y z pos) K.env) σ d σ₂ := fun u0 u0 p =>
  wpAny_IfExp (ht.go p fun w1 x1 p1 => wpAny_mono (h p1) (fun u0 u0 o => o.after x1) fun u0 u0 e => e)
end
end Mine
end
section
open PySem PySem.W PyProof.Rows
namespace Mine
noncomputable def unstarred : List Expr → Bool
  | [] => true
  | .Starred _ _ :: _ => false
  | _ :: r => unstarred r
section
variable {K : Ctx} {ρ : Rho} {σ σ' σ₁ σ₂ σ₃ : St} {d a b c : D} {pos : Pos}
theorem TE_and_t {y z : Expr} {l : List Expr} (hx : TE K ρ (eval y K.env) σ (.bool true) σ₁) (hl : TE K ρ (eval (.BoolOp .And (z :: l) pos) K.env) σ₁ d σ₂) : TE K ρ (eval (.BoolOp .And (y :: z :: l) pos) K.env) σ d σ₂ := fun u0 u0 p =>
  BoolOp_and (hx.go p fun v w1 ⟨x1, p1, _⟩ => by subst v; exact wpAny_truthy_bool (wpAny_mono (hl p1) (fun u0 u0 o => o.after x1) fun u0 u0 e => e))
theorem TE_and_f {y z : Expr} {l : List Expr} (hx : TE K ρ (eval y K.env) σ (.bool false) σ₁) : TE K ρ (eval (.BoolOp .And (y :: z :: l) pos) K.env) σ (.bool false) σ₁ := fun u0 u0 p =>
  BoolOp_and (hx.go p fun v w1 ⟨x1, p1, _⟩ => by subst v; exact wpAny_truthy_bool ⟨w1, x1, p1.I, rfl⟩)
theorem TE_and1 {y : Expr} (h : TE K ρ (eval y K.env) σ d σ₁) : TE K ρ (eval (.BoolOp .And [y] pos) K.env) σ d σ₁ := fun u0 u0 p => BoolOp_one (h p)
theorem starEach_cons {env : Env} {e : Expr} {r : List Expr} (h : unstarred [e] = true) : starEach (e :: r) env = (false, eval e env) :: starEach r env := by
  cases e <;> first | rfl | cases h
theorem TL_nil : TL K ρ (spliced (backTo pos (starEach [] K.env))) σ [] σ := fun w u0 p => wpAny_items_nil ⟨w, .refl _ _, p.I, rfl⟩
theorem TL_cons {e : Expr} {r : List Expr} {l : List D} (hs : unstarred [e] = true) (he : TE K ρ (eval e K.env) σ d σ₁) (hr : TL K ρ (spliced (backTo pos (starEach r K.env))) σ₁ l σ₂) : TL K ρ (spliced (backTo pos (starEach (e :: r) K.env))) σ (d :: l) σ₂ := fun u0 u0 p =>
  wpAny_items_cons (he.go p fun v w1 n1 => hr.go n1.p fun vs w2 x2 p2 r2 => ⟨w2, n1.x.trans x2, p2.I, v, vs, x2.rep n1.r, r2⟩) (starEach_cons hs)
theorem TE_tuple {elts : List Expr} {kd} {l : List D} (hl : TL K ρ (spliced (backTo pos (starEach elts K.env))) σ l σ₁) (hz : l.length ≤ 1000000) : TE K ρ (eval (.Tuple elts kd pos) K.env) σ (.tup l) σ₁ := fun u0 u0 p =>
  wpAny_Tuple (hl.go p fun vs w1 x1 p1 r1 => ⟨by rw [r1.length, sizeLine_is]; exact Nat.le_trans hz (by decide), (out_tup p1.I w1.s.toks r1).after x1⟩)
theorem TE_list {elts : List Expr} {l : List D} (hl : TL K ρ (spliced (backTo pos (starEach elts K.env))) σ l σ₁) (hz : l.length ≤ 1000000) : TE K ρ (eval (.List elts pos) K.env) σ (.lst l) σ₁ := fun u0 u0 p =>
  wpAny_List (hl.go p fun vs w1 x1 p1 r1 => ⟨by rw [r1.length, sizeLine_is]; exact Nat.le_trans hz (by decide), (out_list p1.I w1.s.toks r1).after x1⟩)
theorem wp_subscript {C : Cx} {A : Around} {env : Env} {value slice : Expr} {s : Shared} {Q : Value → Shared → Prop} {E : Value → Shared → Prop}
    (h : wpAny C.M A (eval value env) (fun o s₁ => wpAny C.M A (eval slice env) (fun i s₂ => ItemOn C.M A E o i Q s₂) E s₁) E s) : wpAny C.M A (eval (.Subscript value slice pos) env) Q E s := by
  rw [eval_Subscript]
  refine wpAny_bind (wpAny_mono h (fun o s₁ h₁ => wpAny_bind (wpAny_holding (wpAny_mono h₁ (fun i s₂ h₂ => wpAny_bind (wpAny_standAt ?_)) fun u0 u0 x => x))) fun u0 u0 x => x)
  obtain ⟨T, id, hl, hT, hg⟩ := h₂
  refine wpAny_bind ?_
  unfold getitemInPython
  refine wpAny_bind (wpAny_specialOf hT hl (wpAny_pure (wpAny_bind ?_)))
  have hg' : wpAny C.M A (getItem o i) (fun r s₃ => wpAny C.M A (letTemporaryGo value o r >>= fun u0 => pure r) Q E s₃) E s₂ := wpAny_mono hg (fun r s₃ h₃ => wpAny_bind (wpAny_letTemporaryGo (wpAny_pure h₃))) fun u0 u0 x => x
  unfold subscripted
  split <;> first | exact wpAny_operateT hg' | exact absurd ‹false = true› (by decide)
theorem itemOn_mono {M : Model} {A : Around} {E : Value → Shared → Prop} {o i : Value} {Q Q' : Value → Shared → Prop} {s : Shared} (h : ItemOn M A E o i Q s) (hq : ∀ v s, Q v s → Q' v s) : ItemOn M A E o i Q' s :=
  let ⟨T, id, a, b, c⟩ := h; ⟨T, id, a, b, wpAny_mono c hq fun u0 u0 e => e⟩
theorem TE_idx {value slice : Expr} (hv : TE K ρ (eval value K.env) σ a σ₁) (hi : TE K ρ (eval slice K.env) σ₁ b σ₂) (h : IdxOk σ₂ a b d) : TE K ρ (eval (.Subscript value slice pos) K.env) σ d σ₂ := fun u0 u0 p =>
  wp_subscript (hv.go p fun va w1 n1 => hi.go n1.p fun vb w2 n2 => itemOn_mono (h n2.p.I (n2.x.rep n1.r) n2.r) fun v s' ⟨t, r⟩ => (out_rep n2.p.I r t).after (n1.x.trans n2.x))
inductive Part : D → Option Int → Prop
  | none : Part .none none
  | int (i : Int) : Part (.int i) (some i)
theorem Part.at {x : D} {i : Option Int} {C : Cx} {w : W} {v : Value} : Part x i → Rep C w x v → IsPart v i
  | .none, e => by cases e; exact .none
  | .int i, ⟨t, e⟩ => by subst e; exact .int i t
theorem TE_part_none : TE K ρ (evalPart none K.env) σ .none σ := fun u0 u0 p => by rw [evalPart_none]; exact wpAny_pure (out_here p.I rfl)
theorem TE_part_some {e : Expr} (h : TE K ρ (eval e K.env) σ d σ₁) : TE K ρ (evalPart (some e) K.env) σ d σ₁ := fun u0 u0 p => by rw [evalPart_some]; exact h p
noncomputable def SlOk (σ : St) (o : D) (i j k : Option Int) (d : D) : Prop := ∀ ⦃C : Cx⦄ ⦃A : Around⦄ ⦃w : W⦄ ⦃vo vx vy vz : Value⦄ ⦃E : Value → Shared → Prop⦄ ⦃sa : Addr⦄, Inv C σ w → Rep C w o vo → IsPart vx i → IsPart vy j → IsPart vz k →
  w.s.heap.get? sa = some { cls := .type "slice", data := .fields #[vx, vy, vz] } → ItemOn C.M A E vo (.ref sa) (Out C w σ d) w.s
theorem TE_sl {value : Expr} {lo up st : Option Expr} {p' : Pos} {i j k : Option Int} (ho : TE K ρ (eval value K.env) σ d σ₁) (hx : TE K ρ (evalPart lo K.env) σ₁ a σ₂) (hy : TE K ρ (evalPart up K.env) σ₂ b σ₃) (hz : TE K ρ (evalPart st K.env) σ₃ c σ')
    (pi : Part a i) (pj : Part b j) (pk : Part c k) {r : D} (h : SlOk σ' d i j k r) : TE K ρ (eval (.Subscript value (.Slice lo up st p') pos) K.env) σ r σ' := fun u0 u0 p =>
  wp_subscript (ho.go p fun vo w0 n0 => wpAny_Slice (hx.go n0.p fun vx w1 n1 => hy.go n1.p fun vy w2 n2 => hz.go n2.p fun vz w3 n3 =>
    have hk : ∀ b o, w3.s.heap.get? b = some o → (w3.s.heap.push { cls := .type "slice", data := .fields #[vx, vy, vz] }).get? b = some o := fun u0 u0 e => Heap.get?_push_of_some _ e
    have x4 : Step NoF w3 (w3.put [] .fz (w3.s.heap.push { cls := .type "slice", data := .fields #[vx, vy, vz] }) w3.s.toks []) := .grow hk
    have x := ((n1.x.trans n2.x).trans n3.x).trans x4
    itemOn_mono (h (n3.p.I.grow hk) (x.rep n0.r) (pi.at n1.r) (pj.at n2.r) (pk.at n3.r) (Heap.get?_push_size _ rfl)) fun u0 u0 o => o.after (n0.x.trans x)))
theorem sl_lst {l : List D} {i j k : Option Int} (q : IsL σ a l) (h0 : k ≠ some 0) (hz : l.length ≤ 16777216) : SlOk σ a i j k (.lst ((sliceRange (sliceBounds i j k l.length).1 (sliceBounds i j k l.length).2.1 (sliceBounds i j k l.length).2.2).filterMap (l[·]?))) := fun u0 u0 u0 u0 u0 u0 u0 u0 u0 I ro px py pz hs => by
  obtain ⟨u1, p, vs, n, z, r⟩ := q.at I ro
  refine ⟨_, _, F.slot_list_getitem.lookup, ⟨_, z.is, rfl⟩, wpAny_getItem_list_slice (items := vs.toArray) ⟨_, z.is, rfl, n, rfl⟩ ⟨_, hs, rfl, rfl⟩ px py pz h0 ?_ (by rw [sizeLine_is, List.size_toArray, r.length]; exact hz)⟩
  rw [show slicePick vs.toArray i j k = ((sliceRange (sliceBounds i j k vs.length).1 (sliceBounds i j k vs.length).2.1 (sliceBounds i j k vs.length).2.2).filterMap (vs[·]?)).toArray by unfold slicePick; simp, r.length]
  exact out_list I _ (r.pick _)
end
end Mine
end
section
open PySem PySem.W PyProof.Rows
namespace Mine
theorem Heap.fresh0 (h : Heap) : h.get? h.objs.size = none := by
  cases q : h.get? h.objs.size with
  | none => rfl
  | some o => exact absurd (Heap.lt_size q) (Nat.lt_irrefl _)
inductive AsgL (K : Ctx) : List Expr → List D → Rho → Rho → Prop
  | nil (ρ : Rho) : AsgL K [] [] ρ ρ
  | cons {ρ ρ' : Rho} {i : Nat} {x : Str} {pos : Pos} {d : D} {es : List Expr} {ds : List D} (hi : K.ns[i]? = some x) (hm : K.may ρ i = true) (r : AsgL K es ds (ρ.set i (some d)) ρ') : AsgL K (.Name x pos :: es) (d :: ds) ρ ρ'
inductive Asg (K : Ctx) : Expr → D → Rho → Rho → Prop
  | v {ρ : Rho} {i : Nat} {x : Str} {pos : Pos} {d : D} (hi : K.ns[i]? = some x) (hm : K.may ρ i = true) : Asg K (.Name x pos) d ρ (ρ.set i (some d))
  | t {ρ ρ' : Rho} {elts : List Expr} {kd : Nat} {pos : Pos} {ds : List D} (r : AsgL K elts ds ρ ρ') : Asg K (.Tuple elts kd pos) (.tup ds) ρ ρ'
section
variable {K : Ctx} {ρ ρ' : Rho} {σ : St} {w w' : W} {E : Value → Shared → Prop} {d : D} {v : Value}
theorem OutN.after (x : Step K.own1 w w') {s : Shared} : OutN K K.own1 w' σ ρ s → OutN K K.own1 w σ ρ s
  | ⟨w₂, a, b, c⟩ => ⟨w₂, x.trans a, b, c⟩
theorem assignEach_cons {x : Str} {pos : Pos} {es : List Expr} {env : Env} : assignEach (.Name x pos :: es) env = (false, assign (.Name x pos) env) :: assignEach es env := by rfl
theorem assignEach_names {es : List Expr} {ds : List D} (h : AsgL K es ds ρ ρ') : (assignEach es K.env).length = ds.length ∧ (assignEach es K.env).findIdx? (·.1) = none := by
  induction h with
  | nil => exact ⟨rfl, rfl⟩
  | cons _ _ _ ih => rw [assignEach_cons]; exact ⟨congrArg (· + 1) ih.1, by rw [List.findIdx?_cons, ih.2]; rfl⟩
theorem assignGo_ok {es : List Expr} {ds : List D} (h : AsgL K es ds ρ ρ') : ∀ {vs : List Value} {w : W}, Ok K ρ σ w → RepL K.C w ds vs → wpAny K.C.M K.A (assignInOrder ((assignEach es K.env).map (·.2)) vs) (fun u0 => OutN K K.own1 w σ ρ') E w.s := by
  induction h with
  | nil => exact fun {_ w} p _ => wpAny_pure ⟨w, .refl _ _, p.I, p.V⟩
  | cons hi hm _ ih =>
    intro vs w p ⟨v, vs, r1, r2⟩
    rw [assignEach_cons]
    exact wpAny_bind (wpAny_holding (wpAny_assign_Name (wpAny_mono (store_ok p.o p.I p.V hi hm r1) (fun u0 u0 ⟨w1, x1, I1, V1⟩ => wpAny_mono (ih ⟨p.o, I1, V1⟩ (x1.repL r2)) (fun u0 u0 o => o.after x1) fun u0 u0 e => e) fun u0 u0 e => e)))
theorem assign_ok {e : Expr} (ht : Asg K e d ρ ρ') (p : Ok K ρ σ w) (r : Rep K.C w d v) : wpAny K.C.M K.A (assign e K.env v) (fun u0 => OutN K K.own1 w σ ρ') E w.s := by
  cases ht with
  | v hi hm => exact wpAny_assign_Name (store_ok p.o p.I p.V hi hm r)
  | t h =>
    obtain ⟨a, vs, n, z, r⟩ := r
    obtain ⟨h1, h2⟩ := assignEach_names h
    refine assign_Tuple_tuple (items := vs.toArray) p.o.room.handled ⟨_, z.is, rfl, n, rfl⟩ (by rw [h1, List.size_toArray, r.length]) h2 fun h' hx => ?_
    have hk : ∀ b o, w.s.heap.get? b = some o → h'.get? b = some o := fun b o e => hx b o (fun q => by rw [q, Heap.fresh0] at e; cases e) e
    have x : Step NoF w (w.put [] .fz h' w.s.toks []) := .grow hk
    exact wpAny_mono (assignGo_ok h (w := w.put [] .fz h' w.s.toks []) (p.next x (p.I.grow hk)) (x.repL r)) (fun u0 u0 o => o.after x.ofN) fun u0 u0 e => e
end
end Mine
end
section
open PySem PySem.W PyProof.Rows
namespace Mine
inductive Fl where
  | next | brk | cont | ret (d : D)
inductive FlOk (C : Cx) (w : W) : Fl → Flow → Prop
  | next : FlOk C w .next .next
  | brk : FlOk C w .brk .brk
  | cont : FlOk C w .cont .cont
  | ret {d : D} {v : Value} (r : Rep C w d v) : FlOk C w (.ret d) (.ret v)
inductive OutS (K : Ctx) (w : W) (σ : St) (fl : Fl) (ρ : Rho) (f : Flow) : Shared → Prop
  | mk (w' : W) (x : Step K.own1 w w') (I : Inv K.C σ w') (V : EnvOk K w' ρ) (h : FlOk K.C w' fl f) : OutS K w σ fl ρ f w'.s
noncomputable def TS (K : Ctx) (ρ : Rho) (t : Sem Flow) (σ : St) (fl : Fl) (ρ' : Rho) (σ' : St) : Prop := ∀ ⦃w : W⦄ ⦃E : Value → Shared → Prop⦄, Ok K ρ σ w → wpAny K.C.M K.A t (OutS K w σ' fl ρ') E w.s
section
variable {K : Ctx} {ρ ρ' ρ₁ : Rho} {σ σ₁ σ' : St} {w w' : W} {d : D} {fl : Fl} {pos : Pos}
theorem OutS.after (x : Step K.own1 w w') {f : Flow} {s : Shared} : OutS K w' σ fl ρ f s → OutS K w σ fl ρ f s
  | ⟨w₂, a, b, c, h⟩ => ⟨w₂, x.trans a, b, c, h⟩
theorem TS_nil : TS K ρ (execs [] K.env) σ .next ρ σ := fun w u0 p => wpAny_execs_nil ⟨w, .refl _ _, p.I, p.V, .next⟩
theorem TS_cons {st : Stmt} {rest : List Stmt} (h1 : TS K ρ (exec st K.env) σ .next ρ₁ σ₁) (h2 : TS K ρ₁ (execs rest K.env) σ₁ fl ρ' σ') : TS K ρ (execs (st :: rest) K.env) σ fl ρ' σ' := fun u0 u0 p =>
  wpAny_execs_cons (wpAny_mono (h1 p) (fun u0 u0 ⟨_, x1, I1, V1, h⟩ => by cases h; exact wpAny_mono (h2 ⟨p.o, I1, V1⟩) (fun u0 u0 o => o.after x1) fun u0 u0 e => e) fun u0 u0 e => e)
theorem TS_stop {st : Stmt} {rest : List Stmt} (h1 : TS K ρ (exec st K.env) σ fl ρ' σ') (hf : fl ≠ .next) : TS K ρ (execs (st :: rest) K.env) σ fl ρ' σ' := fun u0 u0 p =>
  wpAny_execs_cons (wpAny_mono (h1 p) (fun u0 u0 ⟨w1, x1, I1, V1, h⟩ => by
    cases h with
    | next => exact absurd rfl hf
    | _ => exact ⟨w1, x1, I1, V1, by first | exact .brk | exact .cont | exact .ret ‹_›⟩) fun u0 u0 e => e)
theorem TS_if_t {test : Expr} {body els : List Stmt} (ht : TB K ρ (isTrue test K.env (eval test K.env)) σ true σ₁) (h : TS K ρ (execs body K.env) σ₁ fl ρ' σ') : TS K ρ (exec (.If test body els pos) K.env) σ fl ρ' σ' := fun u0 u0 p =>
  wpAny_If (ht.go p fun w1 x1 p1 => wpAny_mono (h p1) (fun u0 u0 o => o.after x1.ofN) fun u0 u0 e => e)
theorem TS_if_f {test : Expr} {body els : List Stmt} (ht : TB K ρ (isTrue test K.env (eval test K.env)) σ false σ₁) (h : TS K ρ (execs els K.env) σ₁ fl ρ' σ') : TS K ρ (exec (.If test body els pos) K.env) σ fl ρ' σ' := fun u0 u0 p =>
  wpAny_If (ht.go p fun w1 x1 p1 => wpAny_mono (h p1) (fun u0 u0 o => o.after x1.ofN) fun u0 u0 e => e)
theorem TS_ret {e : Expr} (h : TE K ρ (eval e K.env) σ d σ') : TS K ρ (exec (.Return (some e) pos) K.env) σ (.ret d) ρ σ' := fun u0 u0 p =>
  wpAny_Return_some (h.go p fun v w1 n => ⟨w1, n.x.ofN, n.p.I, n.p.V, .ret n.r⟩)
theorem TS_brk : TS K ρ (exec (.Break pos) K.env) σ .brk ρ σ := fun w u0 p => wpAny_Break ⟨w, .refl _ _, p.I, p.V, .brk⟩
theorem TS_cont : TS K ρ (exec (.Continue pos) K.env) σ .cont ρ σ := fun w u0 p => wpAny_Continue ⟨w, .refl _ _, p.I, p.V, .cont⟩
theorem TS_expr {e : Expr} (h : TE K ρ (eval e K.env) σ d σ') (hi : interactive K.env = false) (hs : swapsWith e none pos.line K.env = pure false) : TS K ρ (exec (.Expr e pos) K.env) σ .next ρ σ' := fun u0 u0 p =>
  wpAny_Expr_any (h.go p fun v w1 n => ⟨w1, n.x.ofN, n.p.I, n.p.V, .next⟩) hi hs
theorem OutN.next (x : Step NoF w w') {s : Shared} : OutN K K.own1 w' σ ρ s → OutS K w σ .next ρ .next s
  | ⟨w₂, a, b, c⟩ => ⟨w₂, x.ofN.trans a, b, c, .next⟩
theorem TS_asg {i : Nat} {x : Str} {q : Pos} {e : Expr} (h : TE K ρ (eval e K.env) σ d σ') (hi : K.ns[i]? = some x) (hm : K.may ρ i = true) (hs : swapsWith e (some (.Name x q)) pos.line K.env = pure false) :
    TS K ρ (exec (.Assign [.Name x q] e pos) K.env) σ .next (ρ.set i (some d)) σ' := fun u0 u0 p =>
  wpAny_Assign_Name (h.go p fun v w1 n => wpAny_mono (store_ok p.o n.p.I n.p.V hi hm n.r) (fun u0 u0 o => o.next n.x) fun u0 u0 e => e) hs
theorem TS_asgT {elts : List Expr} {kd : Nat} {q : Pos} {e : Expr} (h : TE K ρ (eval e K.env) σ d σ') (ht : Asg K (.Tuple elts kd q) d ρ ρ') (hs : swapsWithSole [.Tuple elts kd q] e pos.line K.env = pure false) (hw : swappedStores [.Tuple elts kd q] e K.env = pure none) :
    TS K ρ (exec (.Assign [.Tuple elts kd q] e pos) K.env) σ .next ρ' σ' := fun u0 u0 p =>
  Assign_Tuple (h.go p fun v w1 n => wpAny_mono (assign_ok ht n.p n.r) (fun u0 u0 o => o.next n.x) fun u0 u0 e => e) hs hw
end
end Mine
end
section
open PySem PySem.W PyProof.Rows
namespace Mine
inductive OutI (C : Cx) (k : Addr) {ι : Type} (J : ι → W → Prop) (w : W) (σ : St) (i : ι) (d : D) (v : Value) : Shared → Prop
  | mk (w' : W) (x : Step (· = k) w w') (I : Inv C σ w') (j : J i w') (r : Rep C w' d v) : OutI C k J w σ i d v w'.s
inductive OutD (C : Cx) (k : Addr) (w : W) (σ : St) : Shared → Prop
  | mk (w' : W) (h : Heap) (t : Tok) (x : Step (· = k) w w') (I : Inv C σ w') (hk : ∀ b o, (∀ j ∈ [k], w'.tag b ≠ .mu j) → w'.s.heap.get? b = some o → h.get? b = some o) : OutD C k w σ { w'.s with heap := h, toks := t }
structure ItrL (C : Cx) (A : Around) (target : Expr) (it : Value) (k : Addr) {ι : Type} (J : ι → W → Prop) (N : ι → St → Option D → ι → St → Prop) : Prop where
  stable : ∀ {i w w' F}, J i w → Step F w w' → ¬ F k → J i w'
  item : ∀ {i σ w d i' σ' E}, Inv C σ w → J i w → N i σ (some d) i' σ' → wpAny C.M A (pyNext it) (fun r s1 => ∃ v, r = some v ∧ wpAny C.M A (letOwnedTupleGo target it v) (fun u0 => OutI C k J w σ' i' d v) E s1) E w.s
  done : ∀ {i σ w i' σ' E}, Inv C σ w → J i w → N i σ none i' σ' → wpAny C.M A (pyNext it) (fun r s1 => r = none ∧ OutD C k w σ' s1) E w.s
structure Itr (C : Cx) (A : Around) (target : Expr) (it : Value) (k : Addr) {ι : Type} (J : ι → W → Prop) (N : ι → St → Option D → ι → St → Prop) : Prop extends ItrL C A target it k J N where
  self : ∀ {i w Q E}, J i w → Q it w.s → wpAny C.M A (pyIter it) Q E w.s
inductive Run (K : Ctx) {ι : Type} (N : ι → St → Option D → ι → St → Prop) (target : Expr) (body els : List Stmt) : Nat → ι → Rho → St → Fl → Rho → St → Prop
  | done {n : Nat} {i i' : ι} {ρ ρ' : Rho} {σ σ₁ σ' : St} {fl : Fl} (h : N i σ none i' σ₁) (e : TS K ρ (execs els K.env) σ₁ fl ρ' σ') : Run K N target body els n i ρ σ fl ρ' σ'
  | next {n : Nat} {i i' : ι} {d : D} {ρ ρ₁ ρ₂ ρ' : Rho} {σ σ₁ σ₂ σ' : St} {fl : Fl} (h : N i σ (some d) i' σ₁) (a : Asg K target d ρ ρ₁) (b : TS K ρ₁ (execs body K.env) σ₁ .next ρ₂ σ₂) (r : Run K N target body els n i' ρ₂ σ₂ fl ρ' σ') : Run K N target body els (n + 1) i ρ σ fl ρ' σ'
  | cont {n : Nat} {i i' : ι} {d : D} {ρ ρ₁ ρ₂ ρ' : Rho} {σ σ₁ σ₂ σ' : St} {fl : Fl} (h : N i σ (some d) i' σ₁) (a : Asg K target d ρ ρ₁) (b : TS K ρ₁ (execs body K.env) σ₁ .cont ρ₂ σ₂) (r : Run K N target body els n i' ρ₂ σ₂ fl ρ' σ') : Run K N target body els (n + 1) i ρ σ fl ρ' σ'
  | brk {n : Nat} {i i' : ι} {d : D} {ρ ρ₁ ρ' : Rho} {σ σ₁ σ' : St} (h : N i σ (some d) i' σ₁) (a : Asg K target d ρ ρ₁) (b : TS K ρ₁ (execs body K.env) σ₁ .brk ρ' σ') : Run K N target body els n i ρ σ .next ρ' σ'
  | ret {n : Nat} {i i' : ι} {d e : D} {ρ ρ₁ ρ' : Rho} {σ σ₁ σ' : St} (h : N i σ (some d) i' σ₁) (a : Asg K target d ρ ρ₁) (b : TS K ρ₁ (execs body K.env) σ₁ (.ret e) ρ' σ') : Run K N target body els n i ρ σ (.ret e) ρ' σ'
theorem codeAny_forLoop_go {prog : Program} {w : World} {A : Around} {s : Shared} {R : Result → Shared → Prop} {target it body orelse env} (I : Nat → Shared → Prop)
    (turn : ∀ n s E, I n s → wpAny (model prog w) A (pyNext it) (fun r s₁ => match r with
      | none => wpAny (model prog w) A (execs orelse env) (fun f s₃ => R (.ok f) s₃) E s₁
      | some v => wpAny (model prog w) A (letOwnedTupleGo target it v) (fun u0 s₁ => wpAny (model prog w) A (assign target env v) (fun u0 s₂ => wpAny (model prog w) A (execs body env) (fun f s₃ => match f with
          | .next | .cont => ∃ m, m < n ∧ I m s₃
          | .brk => R (.ok .next) s₃
          | .ret v => R (.ok (.ret v)) s₃) E s₂) E s₁) E s₁) E s)
    (n : Nat) (h : I n s) : codeAny (model prog w) A (.forLoop target it body orelse env) R s := by
  refine codeAny_loop' rfl I (fun n s hI => ?_) n h
  show wpAny _ _ ((forTurn target it body orelse env).onRaise (fun x => do noteFrame x env; theTreesLotGoes x)) _ _ s
  refine wpAny_noted ?_
  simp only [forTurn]
  refine wpAny_bind (wpAny_standAt (wpAny_bind (wpAny_onRaise (wpAny_mono (turn n s (notedBy (model prog w) A env fun e s' => R (.error e) s') hI) (fun r s₁ h₁ => ?_) fun u0 u0 h' => wpAny_standAt h'))))
  cases r with
  | none => exact wpAny_pure (.inr ⟨rfl, codeAny_block h₁⟩)
  | some v =>
    refine wpAny_bind (wpAny_mono h₁ (fun u0 s₁ h₁ => wpAny_bind (wpAny_mono h₁ (fun u0 s₂ h₂ => wpAny_bind (wpAny_mono h₂ (fun f s₃ h₃ => ?_) fun u0 u0 h' => h')) fun u0 u0 h' => h')) fun u0 u0 h' => h')
    cases f with
    | next => exact wpAny_pure (.inl ⟨rfl, h₃⟩)
    | cont => exact wpAny_pure (.inl ⟨rfl, h₃⟩)
    | brk => exact wpAny_pure h₃
    | ret v => exact wpAny_pure h₃
section
variable {K : Ctx} {ι : Type} {N : ι → St → Option D → ι → St → Prop} {J : ι → W → Prop} {target : Expr} {it : Value} {k : Addr} {body els : List Stmt} {fl : Fl} {ρ ρ' ρ₀ : Rho} {σ σ' σ₀ : St} {w w₀ : W} {i : ι} {n : Nat}
inductive Mid (K : Ctx) (k : Addr) (J : ι → W → Prop) (w₀ : W) (R : ι → Rho → St → Prop) : Shared → Prop
  | mk (w : W) (i : ι) (ρ : Rho) (σ : St) (x : Step (fun b => K.own1 b ∨ b = k) w₀ w) (p : Ok K ρ σ w) (j : J i w) (r : R i ρ σ) : Mid K k J w₀ R w.s
theorem own_l {k : Addr} {w w' : W} (x : Step K.own1 w w') : Step (fun b => K.own1 b ∨ b = k) w w' := x.weaken fun u0 => .inl
theorem run_loop (X : ItrL K.C K.A target it k J N) (p₀ : Ok K ρ₀ σ₀ w₀) (hn : NoT w₀ k) (x : Step NoF w₀ w) (I : Inv K.C σ w) (j : J i w) (r : Run K N target body els n i ρ₀ σ fl ρ' σ') :
    codeAny K.C.M K.A (.forLoop target it body els K.env) (fun r s' => ∃ f, r = .ok f ∧ OutS K w₀ σ' fl ρ' f s') w.s := by
  have hid : ∀ j ∈ K.ids, ¬ j = k := fun j m e => by obtain ⟨u1, z⟩ := p₀.V.ids j m; subst e; exact hn _ z.tag
  have hL : ¬ K.own1 k := fun e => hid _ p₀.o.id e.symm
  refine codeAny_forLoop_go (fun n => Mid K k J w₀ fun i ρ σ => Run K N target body els n i ρ σ fl ρ' σ') (fun n s E M => ?_) n ⟨w, i, ρ₀, σ, x.ofN, ⟨p₀.o, I, p₀.V.stepN p₀.o x⟩, j, r⟩
  obtain ⟨w, i, ρ, σ, x, p, j, r⟩ := M
  have body_ok : ∀ {i' d σ₁ ρ₁ fl₁ ρ₂ σ₂} {Q : Flow → Shared → Prop}, N i σ (some d) i' σ₁ → Asg K target d ρ ρ₁ → TS K ρ₁ (execs body K.env) σ₁ fl₁ ρ₂ σ₂ →
      (∀ f w', Step (fun b => K.own1 b ∨ b = k) w₀ w' → Ok K ρ₂ σ₂ w' → J i' w' → FlOk K.C w' fl₁ f → Q f w'.s) →
      wpAny K.C.M K.A (pyNext it) (fun r s₁ => match r with
        | none => wpAny K.C.M K.A (execs els K.env) (fun f s₃ => ∃ f', (.ok f : Result) = .ok f' ∧ OutS K w₀ σ' fl ρ' f' s₃) E s₁
        | some v => wpAny K.C.M K.A (letOwnedTupleGo target it v) (fun u0 s₁ => wpAny K.C.M K.A (assign target K.env v) (fun u0 s₂ => wpAny K.C.M K.A (execs body K.env) Q E s₂) E s₁) E s₁) E w.s := fun h a b q =>
    wpAny_mono (X.item p.I j h) (fun u0 u0 ⟨v, e, g⟩ => by
      subst e
      exact wpAny_mono g (fun u0 u0 ⟨w1, x1, I1, j1, r1⟩ =>
        have V1 := p.V.step p.o x1 hid
        wpAny_mono (assign_ok a ⟨p.o, I1, V1⟩ r1) (fun u0 u0 ⟨w2, x2, I2, V2⟩ => wpAny_mono (b ⟨p.o, I2, V2⟩) (fun f u0 ⟨w3, x3, I3, V3, hf⟩ =>
          q f w3 (x.trans ((x1.weaken fun u0 => .inr).trans (own_l (x2.trans x3)))) ⟨p.o, I3, V3⟩ (X.stable j1 (x2.trans x3) hL) hf) fun u0 u0 e => e) fun u0 u0 e => e) fun u0 u0 e => e) fun u0 u0 e => e
  have tight : ∀ {w'}, Step (fun b => K.own1 b ∨ b = k) w₀ w' → Step K.own1 w₀ w' := fun x => x.tight fun b q => q.imp id fun (e : b = k) => e ▸ hn
  cases r with
  | done h e =>
    refine wpAny_mono (X.done p.I j h) (fun u0 u0 ⟨e1, o⟩ => ?_) fun u0 u0 e => e
    subst e1
    obtain ⟨w1, h, t, x1, I1, hk⟩ := o
    have x2 : Step K.own1 w₀ (w1.fin [k] h t) := (x.trans (x1.weaken fun u0 => .inr)).fin hk (fun b q => q.imp id fun e => List.mem_singleton.mpr e) fun b m => List.mem_singleton.mp m ▸ hn
    have x3 : Step (· = k) w (w1.fin [k] h t) := ⟨⟨fun b o z => fin_keep (t := .fz) hk (fun u0 u0 e => nomatch e) _ _ (x1.keep b o z), x1.main⟩, fun b f => fun a o z => fin_keep hk (fun i m e => by cases e; exact f (List.mem_singleton.mp m)) _ _ (x1.mu b f a o z), let ⟨_, _, e⟩ := x1.rest; ⟨h, t, by show ({ w1.s with heap := h, toks := t } : Shared) = _; rw [e]⟩⟩
    exact wpAny_mono (e (w := w1.fin [k] h t) ⟨p.o, I1.fin hk, p.V.step p.o x3 hid⟩) (fun f u0 o => ⟨f, rfl, o.after x2⟩) fun u0 u0 e => e
  | next h a b r => exact body_ok h a b fun f w' x' p' j' hf => by cases hf; exact ⟨_, Nat.lt_succ_self _, w', _, _, _, x', p', j', r⟩
  | cont h a b r => exact body_ok h a b fun f w' x' p' j' hf => by cases hf; exact ⟨_, Nat.lt_succ_self _, w', _, _, _, x', p', j', r⟩
  | brk h a b => exact body_ok h a b fun f w' x' p' j' hf => by cases hf; exact ⟨_, rfl, w', tight x', p'.I, p'.V, .next⟩
  | ret h a b => exact body_ok h a b fun f w' x' p' j' hf => by cases hf; exact ⟨_, rfl, w', tight x', p'.I, p'.V, .ret ‹_›⟩
end
end Mine
end
section
open PySem PySem.W PyProof.Rows
namespace Mine
inductive Nl : List D → St → Option D → List D → St → Prop
  | some (d : D) (l : List D) (σ : St) : Nl (d :: l) σ (some d) l σ
  | none (σ : St) : Nl [] σ none [] σ
inductive JW (ds : List D) (fp wr : List Addr) (I : Addr) (S : Nat → Heap → Prop) (aux : W → Prop) (l : List D) (w : W) : Prop
  | mk (i : Nat) (hi : i ≤ ds.length) (e : l = ds.drop i) (st : S i w.s.heap) (a : aux w) (f : ∀ b ∈ fp, b ∈ wr ∨ ∃ o, At w .fz b o) (m : ∀ b ∈ wr, ∃ o, At w (.mu I) b o)
section
variable {C : Cx} {A : Around} {target : Expr} {I : Addr} {fp wr : List Addr} {n : Nat} {P : Nat → Value → Prop} {S : Nat → Heap → Prop} {ds : List D} {w w' : W} {σ : St} {h : Heap} {t : Tok}
theorem priv_chg (hk : ∀ b o, w.tag b ≠ .mu I → w.s.heap.get? b = some o → h.get? b = some o) : Chg (· = .mu I) w (w.put [] .fz h t []) := .put fun u0 n b o z => ⟨List.not_mem_nil, hk b o (fun e => n (z.tag.symm.trans e)) z.is⟩
theorem Step.priv (hk : ∀ b o, w.tag b ≠ .mu I → w.s.heap.get? b = some o → h.get? b = some o) : Step (· = I) w (w.put [] .fz h t []) := (priv_chg hk).step (fun e => nomatch e) fun u0 e => by cases e; rfl
theorem Inv.priv (i : Inv C σ w) (hk : ∀ b o, w.tag b ≠ .mu I → w.s.heap.get? b = some o → h.get? b = some o) (ha : ∀ b, w.tag b = .mu I → Alive w b → ∃ o, h.get? b = some o) : Inv C σ (w.put [] .fz h t []) :=
  i.put (priv_chg hk) (fun e => nomatch e) (fun u0 e => nomatch e) (fun u0 m => nomatch m) (fun b a => by
    by_cases q : w.tag b = .mu I
    · exact ha b q a
    · obtain ⟨o, e⟩ := a; exact ⟨o, hk b o q e⟩) (fun u0 m => nomatch m) (fun u0 e => nomatch e) fun u0 e => nomatch e
theorem itr_walks (W' : Walks C.prog C.w A I fp wr n P S) (hn : ds.length = n)
    (go : ∀ i (s : Shared) v (Q : Unit → Shared → Prop) E, S i s.heap → Q () s → wpAny C.M A (letOwnedTupleGo target (.ref I) v) Q E s)
    (live : ∀ i h, S i h → ∀ b ∈ wr, ∃ o, h.get? b = some o) {aux : W → Prop} (haux : ∀ w w', Mono w w' → aux w → aux w')
    (hP : ∀ i d w v, ds[i]? = some d → aux w → P i v → Rep C w d v) : Itr C A target (.ref I) I (JW ds fp wr I S aux) Nl where
  self := fun ⟨j, _, _, st, _, _, _⟩ q => W'.self j _ _ _ st q
  stable := fun ⟨i, hi, e, st, a, f, m⟩ x nf =>
    ⟨i, hi, e, W'.frame i _ _ st fun b hb o e => (f b hb).elim (fun q => let ⟨_, z⟩ := m b q; let y := x.mu I nf _ _ z; by cases z.is.symm.trans e; exact y.is) fun ⟨_, z⟩ => by cases z.is.symm.trans e; exact (x.keep _ _ z).is, haux _ _ x.toMono a,
      fun b hb => (f b hb).imp id fun ⟨o, z⟩ => ⟨o, x.keep _ _ z⟩, fun b hb => let ⟨o, z⟩ := m b hb; ⟨o, x.mu I nf _ _ z⟩⟩
  item := by
    rintro l σ w d l' σ' E i ⟨j, hj, e, st, a, f, m⟩ nl
    cases nl
    have hd : ds[j]? = some d := by rw [← List.head?_drop, ← e]; rfl
    have hj' := get_lt hd
    have hl : l' = ds.drop (j + 1) := by rw [List.drop_add_one_eq_tail_drop, ← e]; rfl
    refine W'.item j w.s _ E (hn ▸ hj') st fun v h' tk pv st' hk => ⟨v, rfl, go _ _ _ _ _ st' ?_⟩
    have no : ∀ b, w.tag b ≠ .mu I → b ∉ wr := fun b q hb => let ⟨_, z⟩ := m b hb; q z.tag
    have hk' : ∀ b o, w.tag b ≠ .mu I → w.s.heap.get? b = some o → h'.get? b = some o := fun b o q => hk b o (no b q)
    have x : Step (· = I) w (w.put [] .fz h' tk []) := .priv hk'
    refine ⟨w.put [] .fz h' tk [], x, i.priv hk' fun b q ⟨o, z⟩ => ?_, ⟨j + 1, hj', hl, st', haux _ _ x.toMono a, fun b hb => (f b hb).imp id fun ⟨o, z⟩ => ⟨o, x.keep _ _ z⟩, fun b hb => let ⟨_, z⟩ := m b hb; let ⟨o, q⟩ := live _ _ st' b hb; ⟨o, z.tag, q⟩⟩, hP j d _ v hd (haux _ _ x.toMono a) pv⟩
    by_cases hb : b ∈ wr
    · exact live _ _ st' b hb
    · exact ⟨o, hk b o hb z⟩
  done := by
    rintro l σ w l' σ' E i ⟨j, hj, e, st, a, f, m⟩ nl
    cases nl
    have : j = n := hn ▸ Nat.le_antisymm hj (List.drop_eq_nil_iff.mp e.symm)
    subst this
    exact W'.done w.s _ E st fun h' tk hk => ⟨rfl, w, h', tk, .refl _ _, i, fun b o q => hk b o fun hb => let ⟨_, z⟩ := m b hb; q I (.head _) z.tag⟩
end
end Mine
end
section
open PySem PySem.W PyProof.Rows
namespace Mine
inductive IterO (C : Cx) (A : Around) (target : Expr) {ι : Type} (N : ι → St → Option D → ι → St → Prop) (i : ι) (w : W) (σ : St) (it : Value) : Shared → Prop
  | mk (w' : W) (k : Addr) (J : ι → W → Prop) (x : Step NoF w w') (I : Inv C σ w') (X : Itr C A target it k J N) (j : J i w') (hn : NoT w k) (hl : ∃ o, At w' (.mu k) k o) : IterO C A target N i w σ it w'.s
section
variable {C : Cx} {A : Around} {target : Expr} {n : Nat} {P : Nat → Value → Prop} {S : Nat → Heap → Prop} {ds : List D} {w w' : W} {σ : St} {o : Obj} {fp : List Addr}
theorem new_priv (I : Inv C σ w) (hf : o.isFreed = false) (t : Tok) : Step NoF w (w.put [w.s.heap.objs.size] (.mu w.s.heap.objs.size) (w.s.heap.push o) t []) ∧ Inv C σ (w.put [w.s.heap.objs.size] (.mu w.s.heap.objs.size) (w.s.heap.push o) t []) := by
  have hg := Heap.get?_push_size w.s.heap hf
  have c : Chg NoX w (w.put [w.s.heap.objs.size] (.mu w.s.heap.objs.size) (w.s.heap.push o) t []) := .put fun t u0 b o z => ⟨fun m => z.alive.no (List.mem_singleton.mp m ▸ Heap.fresh0 _), Heap.get?_push_of_some _ z.is⟩
  exact ⟨c.step id fun u0 q => q.elim, I.put c id (fun u0 => id) (fun b m => List.mem_singleton.mp m ▸ ⟨_, hg⟩) (fun b ⟨o, e⟩ => ⟨o, Heap.get?_push_of_some _ e⟩) (fun b m q => by cases List.mem_singleton.mp m; exact nomatch (I.dead _ (Heap.fresh0 _)).symm.trans q)
    (fun j e => by cases e; exact ⟨_, if_pos (.head _), hg⟩) fun u0 e => nomatch e⟩
theorem iterO_of (I : Inv C σ w) (hf : o.isFreed = false) (W' : Walks C.prog C.w A w.s.heap.objs.size fp [w.s.heap.objs.size] n P S) (hn : ds.length = n)
    (go : ∀ i (s : Shared) v (Q : Unit → Shared → Prop) E, S i s.heap → Q () s → wpAny C.M A (letOwnedTupleGo target (.ref w.s.heap.objs.size) v) Q E s)
    (live : ∀ i h, S i h → ∃ o, h.get? w.s.heap.objs.size = some o) {aux : W → Prop} (haux : ∀ w w', Mono w w' → aux w → aux w')
    (hP : ∀ i d w v, ds[i]? = some d → aux w → P i v → Rep C w d v) (h0 : aux w) (st : S 0 (w.s.heap.push o)) (hfp : ∀ b ∈ fp, b = w.s.heap.objs.size ∨ ∃ o, At w .fz b o) :
    IterO C A target Nl ds w σ (.ref w.s.heap.objs.size) { w.s with heap := w.s.heap.push o } := by
  obtain ⟨x, I'⟩ := new_priv (t := w.s.toks) I hf
  refine ⟨w.put [w.s.heap.objs.size] (.mu w.s.heap.objs.size) (w.s.heap.push o) w.s.toks [], _, _, x, I', itr_walks W' hn go (fun i h s b m => List.mem_singleton.mp m ▸ live i h s) haux hP,
    ⟨0, Nat.zero_le _, rfl, st, haux _ _ x.toMono h0, fun b hb => (hfp b hb).imp (fun e => List.mem_singleton.mpr e) fun ⟨o, z⟩ => ⟨o, x.keep _ _ z⟩, fun b m => ⟨_, if_pos m, List.mem_singleton.mp m ▸ Heap.get?_push_size _ hf⟩⟩, .of I (Heap.fresh0 _), ⟨_, if_pos (.head _), Heap.get?_push_size _ hf⟩⟩
theorem IterO.after {ι : Type} {N : ι → St → Option D → ι → St → Prop} {i : ι} {it : Value} {σ' : St} {s : Shared} (I : Inv C σ' w) (x : Step NoF w w') : IterO C A target N i w' σ it s → IterO C A target N i w σ it s
  | ⟨w₂, k, J, y, I', X, j, hn, hl⟩ => ⟨w₂, k, J, x.trans y, I', X, j, hn.back I x, hl⟩
end
end Mine
end
section
open PySem PySem.W PyProof.Rows
namespace Mine
noncomputable def goTypes : List String := ["enumerate", "zip", "dict_itemiterator", "dict_reverseitemiterator", "odict_iterator", "itertools.zip_longest", "itertools.pairwise"]
theorem go_of {M : Model} {A : Around} {E : Value → Shared → Prop} {s : Shared} {target : Expr} {I : Addr} {v : Value} {o : Obj} {T : String} {Q : Unit → Shared → Prop} (ho : s.heap.get? I = some o) (hc : o.cls = .type T) (hT : goTypes.contains T = false)
    (h : Q () s) : wpAny M A (letOwnedTupleGo target (.ref I) v) Q E s := by
  have key : ∀ a, wpAny M A (do
      let o ← load I
      match o.cls, o.data with
      | .type n, .fields vs =>
        if goTypes.contains n && vs[0]? == some (rawInt a) then
          rule "for.unpacks-the-owned-tuple"
          updateField I 0 .none
      | _, _ => pure () : Sem Unit) Q E s := by
    intro a
    refine wpAny_bind (wpAny_load ho ?_)
    rw [hc]
    cases o.data <;> first | exact wpAny_pure h | skip
    dsimp only
    rw [hT, Bool.false_and, if_neg (by decide)]
    exact wpAny_pure h
  cases target <;> first | exact wpAny_pure h | skip
  all_goals
    cases v <;> first | exact wpAny_pure h | exact key _
noncomputable def IterOk (d : D) (ds : List D) : Prop := ∀ ⦃C : Cx⦄ ⦃A : Around⦄ ⦃σ : St⦄ ⦃w : W⦄ ⦃v : Value⦄ ⦃target : Expr⦄ ⦃E : Value → Shared → Prop⦄, A.handled = none → Inv C σ w → Rep C w d v → wpAny C.M A (pyIter v) (IterO C A target Nl ds w σ) E w.s
noncomputable def signs (s : Str) : List D := s.cps.toList.map fun c => .str ⟨#[c]⟩
theorem At.ne {w : W} {t : Tag} {a : Addr} {o : Obj} (z : At w t a o) : a ≠ w.s.heap.objs.size := fun q => z.alive.no (q ▸ Heap.fresh0 _)
theorem repL_mono {C : Cx} {l : List D} {vs : List Value} : ∀ w w', Mono w w' → RepL C w l vs → RepL C w' l vs := fun u0 u0 M r => RepL.mono M l vs r
theorem iter_lst {l : List D} : IterOk (.lst l) l := fun C A σ w v target E hh I ⟨a, vs, n, z, r⟩ =>
  wpAny_pyIter_list (items := vs.toArray) ⟨_, z.is, rfl, n, rfl⟩ (iterO_of I rfl (Walks.list hh _ a z.ne vs.toArray) (by rw [List.size_toArray, r.length]) (fun i s' v Q E st q => let ⟨⟨o, ho, hc, _⟩, _⟩ := st; go_of ho hc (by decide) q)
    (fun i h st => let ⟨⟨o, e, _⟩, _⟩ := st; ⟨o, e⟩) (aux := fun w => RepL C w l vs) repL_mono (fun i d w v hd r' hv => let ⟨_, e1, e2⟩ := r'.get hd; by cases e1.symm.trans (List.getElem?_toArray.symm.trans hv); exact e2) r
    ⟨⟨_, Heap.get?_push_size _ rfl, rfl, rfl⟩, ⟨_, Heap.get?_push_of_some _ z.is, rfl, n, rfl⟩⟩ fun b hb => (List.mem_cons.mp hb).imp id fun q => by rw [List.mem_singleton.mp q]; exact ⟨_, z⟩)
theorem iter_tup {l : List D} : IterOk (.tup l) l := fun C A σ w v target E hh I ⟨a, vs, n, z, r⟩ =>
  wpAny_pyIter_tuple (items := vs.toArray) ⟨_, z.is, rfl, n, rfl⟩ (iterO_of I rfl (Walks.tuple hh _ a z.ne vs.toArray) (by rw [List.size_toArray, r.length]) (fun i s' v Q E st q => let ⟨⟨o, ho, hc, _⟩, _⟩ := st; go_of ho hc (by decide) q)
    (fun i h st => let ⟨⟨o, e, _⟩, _⟩ := st; ⟨o, e⟩) (aux := fun w => RepL C w l vs) repL_mono (fun i d w v hd r' hv => let ⟨_, e1, e2⟩ := r'.get hd; by cases e1.symm.trans (List.getElem?_toArray.symm.trans hv); exact e2) r
    ⟨⟨_, Heap.get?_push_size _ rfl, rfl, rfl⟩, ⟨_, Heap.get?_push_of_some _ z.is, rfl, n, rfl⟩⟩ fun b hb => (List.mem_cons.mp hb).imp id fun q => by rw [List.mem_singleton.mp q]; exact ⟨_, z⟩)
end Mine
end
section
open PySem PySem.W PyProof.Rows
namespace Mine
theorem strIter_alive {h : Heap} {a : Addr} {T x t i} (y : h.IsStrIter a T x t i) : ∃ o, h.get? a = some o := let ⟨o, e, _⟩ := y; ⟨o, e⟩
theorem iter_str {x : Str} : IterOk (.str x) (signs x) := fun C A σ w v target E hh I ⟨t, e⟩ => by
  subst e
  have hP : ∀ {P : Nat → Value → Prop}, (∀ i v, P i v → SignAt x i v) → ∀ i d (w : W) v, (signs x)[i]? = some d → True → P i v → Rep C w d v := fun hP i d w v hd u0 hv => by
    unfold signs at hd
    rw [List.getElem?_map] at hd
    obtain ⟨c, e, rfl⟩ := Option.map_eq_some_iff.mp hd
    obtain ⟨c', u, e', rfl⟩ := hP _ _ hv
    cases (Array.getElem?_toList.symm.trans e).symm.trans e'
    exact ⟨u, rfl⟩
  have len : (signs x).length = x.cps.size := List.length_map ..
  cases ha : x.cps.all (· < 128)
  · exact wpAny_pyIter_wide ha (iterO_of I rfl (Walks.strWide hh _ x t) len (fun i s' v Q E st q => let ⟨o, ho, hc, _⟩ := st; go_of ho hc (by decide) q) (fun i h st => strIter_alive st) (aux := fun u0 => True) (fun u0 u0 u0 h => h) (hP fun u0 u0 h => h) trivial ⟨_, Heap.get?_push_size _ rfl, rfl, rfl⟩ fun u0 m => .inl (List.mem_singleton.mp m))
  · exact wpAny_pyIter_ascii ha (iterO_of I rfl (Walks.strAscii hh _ x t) len (fun i s' v Q E st q => let ⟨o, ho, hc, _⟩ := st; go_of ho hc (by decide) q) (fun i h st => strIter_alive st) (aux := fun u0 => True) (fun u0 u0 u0 h => h) (hP fun u0 u0 h => h) trivial ⟨_, Heap.get?_push_size _ rfl, rfl, rfl⟩ fun u0 m => .inl (List.mem_singleton.mp m))
end Mine
end
section
open PySem PySem.W PyProof.Rows
namespace Mine
section
variable {C : Cx} {κ : Type} {w : W}
theorem repK_get : ∀ {l : List (κ × D)} {kvs : List (κ × Value)}, RepK C w l kvs → ∀ {i : Nat} {p : κ × D}, l[i]? = some p → ∃ v, kvs[i]? = some (p.1, v) ∧ Rep C w p.2 v
  | [], _, _, _, _, e => nomatch e
  | _ :: _, _, ⟨v, _, a, _⟩, 0, _, e => by cases e; exact ⟨v, rfl, a⟩
  | _ :: _, _, ⟨_, _, _, b⟩, i + 1, _, e => repK_get b e
theorem repK_len : ∀ {l : List (κ × D)} {kvs : List (κ × Value)}, RepK C w l kvs → kvs.length = l.length
  | [], _, r => congrArg _ r
  | _ :: _, _, ⟨_, _, _, b⟩ => congrArg (· + 1) (repK_len b)
theorem repS_mono {l : List (Str × D)} {vs : List (Str × Value)} : ∀ w w', Mono w w' → RepS C w l vs → RepS C w' l vs := fun u0 u0 M r => RepS.mono M l vs r
end
theorem iter_keys {l : List (Str × D)} : IterOk (.ds l) (l.map fun p => .str p.1) := fun C A σ w v target E hh I ⟨a, o, kvs, ne, z, hd, r⟩ => by
  have r' : RepK C w l kvs := repS_K l ▸ r
  obtain ⟨ep, dat⟩ := (ds_mapOf z hd).dictAt
  exact wpAny_pyIter_dict (ref_sys ne) dat (iterO_of I rfl (Walks.dictKeys (knd := strKind C.prog C.w) hh _ a z.ne kvs ep) (by rw [List.length_map, repK_len r']) (fun i s' v Q E st q => let ⟨⟨o, ho, hc, _⟩, _⟩ := st; go_of ho hc (by decide) q)
    (fun i h st => let ⟨⟨o, e, _⟩, _⟩ := st; ⟨o, e⟩) (aux := fun w => RepS C w l kvs) repS_mono (fun i d w v hd r' hv => by
      obtain ⟨k', x, e1, e2⟩ := hv
      rw [List.getElem?_map] at hd
      obtain ⟨p, e3, rfl⟩ := Option.map_eq_some_iff.mp hd
      obtain ⟨u, e4, u1⟩ := repK_get (repS_K l ▸ r') e3
      rw [e1] at e4; cases e4
      obtain ⟨t, rfl⟩ := Value.isStrOf_shape e2
      exact ⟨t, rfl⟩) r
    ⟨⟨_, Heap.get?_push_size _ rfl, rfl, rfl⟩, dat.push _⟩ fun b hb => (List.mem_cons.mp hb).imp id fun q => by rw [List.mem_singleton.mp q]; exact ⟨_, z⟩)
end Mine
end
section
open PySem PySem.W PyProof.Rows
namespace Mine
inductive WRun (K : Ctx) (test : Expr) (body : List Stmt) : Nat → Rho → St → Rho → St → Prop
  | done {n : Nat} {ρ : Rho} {σ σ' : St} (t : TB K ρ (isTrue test K.env (eval test K.env)) σ false σ') : WRun K test body n ρ σ ρ σ'
  | next {n : Nat} {ρ ρ₁ ρ' : Rho} {σ σ₁ σ₂ σ' : St} (t : TB K ρ (isTrue test K.env (eval test K.env)) σ true σ₁) (b : TS K ρ (execs body K.env) σ₁ .next ρ₁ σ₂) (r : WRun K test body n ρ₁ σ₂ ρ' σ') : WRun K test body (n + 1) ρ σ ρ' σ'
inductive MidW (K : Ctx) (w₀ : W) (R : Rho → St → Prop) : Shared → Prop
  | mk (w : W) (ρ : Rho) (σ : St) (x : Step K.own1 w₀ w) (p : Ok K ρ σ w) (r : R ρ σ) : MidW K w₀ R w.s
theorem TS_while {K : Ctx} {test : Expr} {body : List Stmt} {pos : Pos} {n : Nat} {ρ ρ' : Rho} {σ σ' : St} (r : WRun K test body n ρ σ ρ' σ') : TS K ρ (exec (.While test body [] pos) K.env) σ .next ρ' σ' := fun w₀ E p =>
  wpAny_While (codeAny_mono (codeAny_whileLoop (R := fun r s' => ∃ f, r = .ok f ∧ OutS K w₀ σ' .next ρ' f s') (fun n => MidW K w₀ fun ρ σ => WRun K test body n ρ σ ρ' σ') (fun n s M => by
    obtain ⟨w, ρ, σ, x, p, r⟩ := M
    cases r with
    | done t => exact t.go p fun w1 x1 p1 => wpAny_execs_nil ⟨.next, rfl, w1, x.trans x1.ofN, p1.I, p1.V, .next⟩
    | next t b r => exact t.go p fun w1 x1 p1 => wpAny_mono (b p1) (fun f u0 ⟨w2, x2, I2, V2, h⟩ => by cases h; exact ⟨_, Nat.lt_succ_self _, w2, _, _, x.trans (x1.ofN.trans x2), ⟨p.o, I2, V2⟩, r⟩) fun u0 u0 e => e) n ⟨w₀, ρ, σ, .refl _ _, p, r⟩) (by rintro r s' ⟨f, rfl, o⟩; exact o))
end Mine
end
section
open PySem PySem.W PyProof.Rows
namespace Mine
noncomputable def isComp : Expr → Bool
  | .ListComp .. => true
  | .DictComp .. => true
  | _ => false
noncomputable def testsOf (ifs : List Expr) (env : Env) : Sem Bool := forIn ifs true fun c r => if r = true then do let ok ← isTrue c env (eval c env); pure (ForInStep.yield ok) else pure (ForInStep.yield r)
noncomputable def turnOf (target iter : Expr) (ifs : List Expr) (act : Sem Unit) (c : Code) (it : Value) (env : Env) : Sem Fin :=
  standAt iter.pos >>= fun u0 => pyNext it >>= fun r => match r with
      | none => pure (.done .next)
      | some v => letOwnedTupleGo target it v >>= fun u0 => assign target env v >>= fun u0 =>
        testsOf ifs env >>= fun ok => if ok = true then act >>= fun u0 => again c else again c
noncomputable def emitL (elt : Expr) (acc : Value) (env : Env) : Sem Unit := do let _ ← call (.builtin "list.append") [acc, ← eval elt env]
noncomputable def emitD (k v : Expr) (d : Addr) (env : Env) : Sem Unit := do
        let kv ← eval k env
        let vv ← holding [kv] (eval v env)
        standAt { k.pos with endLine := v.pos.endLine, endCol := v.pos.endCol }
        holding [kv, vv] (dictSet d kv vv)
noncomputable def nestOf (e iter : Expr) (depth : Nat) (acc : Value) (env : Env) : Sem Unit := do
        let x ← eval iter env
        standAt iter.pos
        let x ← foldedSetIterable iter env x
        let _ ← runOwn (.compStart e depth (← holding [x] (pyIter x)) acc env) env
section
variable {target iter elt k v t2 i2 : Expr} {ifs f2 : List Expr} {scope : Scope} {pos : Pos} {it acc : Value} {env : Env} {d : Addr}
theorem turn_l1 : compTurn (.ListComp elt [⟨target, iter, ifs, 0⟩] scope pos) 0 it acc env = turnOf target iter ifs (emitL elt acc env) (.compLoop (.ListComp elt [⟨target, iter, ifs, 0⟩] scope pos) 0 it acc env) it env := by rfl
theorem turn_d1 : compTurn (.DictComp k v [⟨target, iter, ifs, 0⟩] scope pos) 0 it (.ref d) env = turnOf target iter ifs (emitD k v d env) (.compLoop (.DictComp k v [⟨target, iter, ifs, 0⟩] scope pos) 0 it (.ref d) env) it env := by rfl
theorem turn_l2 : compTurn (.ListComp elt [⟨target, iter, ifs, 0⟩, ⟨t2, i2, f2, 0⟩] scope pos) 0 it acc env = turnOf target iter ifs (nestOf (.ListComp elt [⟨target, iter, ifs, 0⟩, ⟨t2, i2, f2, 0⟩] scope pos) i2 1 acc env) (.compLoop (.ListComp elt [⟨target, iter, ifs, 0⟩, ⟨t2, i2, f2, 0⟩] scope pos) 0 it acc env) it env := by
  unfold turnOf nestOf
  simp only [bind_assoc]
  rfl
theorem turn_l3 : compTurn (.ListComp elt [⟨target, iter, ifs, 0⟩, ⟨t2, i2, f2, 0⟩] scope pos) 1 it acc env = turnOf t2 i2 f2 (emitL elt acc env) (.compLoop (.ListComp elt [⟨target, iter, ifs, 0⟩, ⟨t2, i2, f2, 0⟩] scope pos) 1 it acc env) it env := by rfl
end
section
variable {prog : Program} {w : World} {A : Around} {R : Result → Shared → Prop} {s : Shared}
theorem codeAny_compLoop_gen {e : Expr} (he : isComp e = true) {depth : Nat} {it acc : Value} {env : Env} (I : Nat → Shared → Prop)
    (turn : ∀ n s E, I n s → wpAny (model prog w) A (compTurn e depth it acc env) (fun fin s' => match fin with
      | .done f => R (.ok f) s'
      | .again c' => c' = .compLoop e depth it acc env ∧ ∃ m, m < n ∧ I m s') E s) (n : Nat) (h : I n s) :
    codeAny (model prog w) A (.compLoop e depth it acc env) R s := by
  cases e <;> first | (cases he; done) | exact codeAny_loop rfl I (fun n s hI => wpAny_noted (turn n s _ hI)) n h
theorem codeAny_compStart_gen {e : Expr} (he : isComp e = true) {depth : Nat} {target iter : Expr} {ifs : List Expr} (hg : (clausesOf e)[depth]? = some ⟨target, iter, ifs, 0⟩) {it acc : Value} {env : Env}
    (h0 : codeAny (model prog w) A (.compLoop e depth it acc env) R s) (hit : ∀ Q E, Q it s → wpAny (model prog w) A (pyIter it) Q E s) :
    codeAny (model prog w) A (.compStart e depth it acc env) R s := by
  have key : ∀ E, wpAny (model prog w) A (compStart e depth it acc env) (fun fin s' => match fin with
      | .done f => R (.ok f) s'
      | .again c' => c'.quiet = true ∧ codeAny (model prog w) A c' R s') E s := by
    intro E
    have hq : (Code.compLoop e depth it acc env).quiet = true := by cases e <;> first | rfl | cases he
    unfold compStart
    rw [hg]
    refine wpAny_bind (wpAny_askSetting (wpAny_ite ?_))
    split
    · first
        | exact wpAny_bind (wpAny_pure (wpAny_pure (And.intro hq h0)))
        | exact wpAny_pure (And.intro hq h0)
    · first
        | exact wpAny_bind (wpAny_rule (wpAny_bind (wpAny_standAt (wpAny_bind (hit _ _ (wpAny_pure (And.intro hq h0)))))))
        | (refine wpAny_bind (wpAny_rule ?_); show wpAny _ _ (standAt iter.pos >>= _) _ _ s; exact wpAny_bind (wpAny_standAt (wpAny_bind (hit _ _ (wpAny_pure (And.intro hq h0))))))
  refine codeAny_of_tree ?_
  cases e <;> first | (cases he; done) | exact wpAny_notedAt (key _)
end
noncomputable def Le (ρ ρ' : Rho) : Prop := ∀ (i : Nat) (d : D), ρ[i]? = some (some d) → ρ'[i]? = some (some d)
section
variable {K : Ctx} {ρ ρ' ρ₁ ρ₂ : Rho} {w w' : W} {σ σ' σ₁ σ₀ : St} {i j : Nat} {o : Option D}
theorem Le.refl : Le ρ ρ := fun u0 u0 h => h
theorem Le.set (h : ρ[i]? = some none) : Le ρ (ρ.set i o) := fun j d e => by
  by_cases q : i = j
  · subst q; exact nomatch h.symm.trans e
  · rw [List.getElem?_set_ne q]; exact e
theorem Le.trans (a : Le ρ ρ₁) (b : Le ρ₁ ρ₂) : Le ρ ρ₂ := fun i d e => b i d (a i d e)
theorem Ctx.tagOf_none (h : K.once = []) : K.tagOf ρ i = .mu K.L := by
  unfold Ctx.tagOf
  rw [h]
  split
  · rfl
  · exact if_neg List.not_mem_nil
theorem EnvOk.weaken (h : K.once = []) (l : Le ρ ρ') (V : EnvOk K w ρ') : EnvOk K w ρ :=
  ⟨let ⟨o, es, ep, z, e, sk, val⟩ := V.loc; ⟨o, es, ep, z, e, sk, fun i y d a b c => val i y d a b (l i d c)⟩,
   fun y c a => let ⟨o, ov, t, z, e, ne, ht, val, own⟩ := V.cel y c a; ⟨o, ov, t, z, e, ne, ht, fun i d a b c => val i d a b (l i d c), fun i a b c => (own i a b c).trans ((Ctx.tagOf_none h).trans (Ctx.tagOf_none h).symm)⟩, V.ids⟩
noncomputable abbrev Ctx.ownA (K : Ctx) (a : Addr) : Addr → Prop := fun b => K.own1 b ∨ b = a
inductive OutG (K : Ctx) (F : Addr → Prop) {γ : Type} (G : γ → W → Prop) (w : W) (σ : St) (g : γ) (ρ : Rho) : Shared → Prop
  | mk (w' : W) (x : Step F w w') (p : Ok K ρ σ w') (q : G g w') : OutG K F G w σ g ρ w'.s
noncomputable def TG (K : Ctx) (a : Addr) {γ : Type} (G : γ → W → Prop) (ρ : Rho) (act : Sem Unit) (σ : St) (g : γ) (σ' : St) (g' : γ) : Prop :=
  ∀ ⦃w : W⦄ ⦃E : Value → Shared → Prop⦄, Ok K ρ σ w → G g w → wpAny K.C.M K.A act (fun u0 => OutG K (K.ownA a) G w σ' g' ρ) E w.s
structure Gat (a : Addr) {γ : Type} (G : γ → W → Prop) : Prop where
  go : ∀ {g w w'}, Mono w w' → Keeps w w' (.mu a) → G g w → G g w'
inductive CRun (K : Ctx) (a : Addr) {γ : Type} (G : γ → W → Prop) (target : Expr) (ifs : List Expr) (act : Sem Unit) (ρ : Rho) : List D → St → γ → St → γ → Prop
  | nil {σ : St} {g : γ} : CRun K a G target ifs act ρ [] σ g σ g
  | skip {d : D} {ds : List D} {ρ₁ : Rho} {σ σ₁ σ' : St} {g g' : γ} (h : Asg K target d ρ ρ₁) (l : Le ρ ρ₁) (t : TB K ρ₁ (testsOf ifs K.env) σ false σ₁) (r : CRun K a G target ifs act ρ ds σ₁ g σ' g') : CRun K a G target ifs act ρ (d :: ds) σ g σ' g'
  | act {d : D} {ds : List D} {ρ₁ : Rho} {σ σ₁ σ₂ σ' : St} {g g₁ g' : γ} (h : Asg K target d ρ ρ₁) (l : Le ρ ρ₁) (t : TB K ρ₁ (testsOf ifs K.env) σ true σ₁) (e : TG K a G ρ₁ act σ₁ g σ₂ g₁) (r : CRun K a G target ifs act ρ ds σ₂ g₁ σ' g') : CRun K a G target ifs act ρ (d :: ds) σ g σ' g'
inductive MidC (K : Ctx) {γ : Type} (F : Addr → Prop) (J : List D → W → Prop) (G : γ → W → Prop) (w₀ : W) (ρ : Rho) (R : List D → St → γ → Prop) (n : Nat) : Shared → Prop
  | mk (w : W) (ds : List D) (σ : St) (g : γ) (x : Step F w₀ w) (p : Ok K ρ σ w) (j : J ds w) (q : G g w) (r : R ds σ g) (hn : n = ds.length) : MidC K F J G w₀ ρ R n w.s
theorem comp_loop {γ : Type} {a k : Addr} {G : γ → W → Prop} {J : List D → W → Prop} {e target iter : Expr} {ifs : List Expr} {act : Sem Unit} {depth : Nat} {it acc : Value} {ds : List D} {g g' : γ} (he : isComp e = true)
    (ht : compTurn e depth it acc K.env = turnOf target iter ifs act (.compLoop e depth it acc K.env) it K.env) (X : Itr K.C K.A target it k J Nl) (Gm : Gat a G) (h1 : K.once = []) (p : Ok K ρ σ w) (hid : ∀ j ∈ K.ids, j ≠ k ∧ j ≠ a) (hka : k ≠ a) (j : J ds w) (q : G g w)
    (r : CRun K a G target ifs act ρ ds σ g σ' g') : codeAny K.C.M K.A (.compLoop e depth it acc K.env) (fun r s' => r = .ok .next ∧ OutG K (fun b => K.ownA a b ∨ b = k) G w σ' g' ρ s') w.s := by
  have hL : K.L ≠ k := (hid _ p.o.id).1
  have hLa : K.L ≠ a := (hid _ p.o.id).2
  refine codeAny_compLoop_gen he (fun n => MidC K (fun b => K.ownA a b ∨ b = k) J G w ρ (fun ds σ g => CRun K a G target ifs act ρ ds σ g σ' g') n) (fun n s E M => ?_) ds.length ⟨w, ds, σ, g, .refl _ _, p, j, q, r, rfl⟩
  obtain ⟨w₁, ds₁, σ₁, g₁, x, p, j, q, r, hn⟩ := M
  rw [ht]
  refine wpAny_bind (wpAny_standAt ?_)
  have one : ∀ {d ds σ₂ ρ₁ b} {Q : Fin → Shared → Prop}, J (d :: ds) w₁ → Asg K target d ρ ρ₁ → TB K ρ₁ (testsOf ifs K.env) σ₁ b σ₂ →
      (∀ w', Step (fun c => K.ownA a c ∨ c = k) w w' → Ok K ρ₁ σ₂ w' → J ds w' → G g₁ w' → wpAny K.C.M K.A (if b = true then act >>= fun u0 => again (.compLoop e depth it acc K.env) else again (.compLoop e depth it acc K.env)) Q E w'.s) →
      wpAny K.C.M K.A (pyNext it >>= fun r => match r with
        | none => pure (.done .next)
        | some v => letOwnedTupleGo target it v >>= fun u0 => assign target K.env v >>= fun u0 =>
          testsOf ifs K.env >>= fun ok => if ok = true then act >>= fun u0 => again (.compLoop e depth it acc K.env) else again (.compLoop e depth it acc K.env)) Q E w₁.s := fun j h t hq =>
    wpAny_bind (wpAny_mono (X.item p.I j (.some _ _ _)) (fun u0 u0 ⟨v, e, y⟩ => by
      subst e
      exact wpAny_bind (wpAny_mono y (fun u0 u0 ⟨w2, x2, I2, j2, r2⟩ =>
        have V2 := p.V.step p.o x2 fun j m e => (hid j m).1 e
        have q2 := Gm.go x2.toMono (x2.mu a fun e => hka e.symm) q
        wpAny_bind (wpAny_mono (assign_ok h ⟨p.o, I2, V2⟩ r2) (fun u0 u0 ⟨w3, x3, I3, V3⟩ =>
          have q3 := Gm.go x3.toMono (x3.mu a fun e => hLa e.symm) q2
          wpAny_bind (t.go ⟨p.o, I3, V3⟩ fun w4 x4 p4 => hq w4 (x.trans ((x2.weaken fun u0 => .inr).trans ((x3.weaken fun u0 e => .inl (.inl e)).trans x4.ofN))) p4 (X.stable (X.stable j2 x3 fun e => hL e.symm) x4 id) (Gm.go x4.toMono (x4.mu a id) q3))) fun u0 u0 e => e)) fun u0 u0 e => e)) fun u0 u0 e => e)
  cases r with
  | nil =>
    refine wpAny_bind (wpAny_mono (X.done p.I j (.none _)) (fun u0 u0 ⟨e1, o⟩ => ?_) fun u0 u0 e => e)
    subst e1
    obtain ⟨w2, h, t, x1, I1, hk⟩ := o
    have x3 : Step (· = k) w₁ (w2.fin [k] h t) := ⟨⟨fun b o z => fin_keep (t := .fz) hk (fun u0 u0 e => nomatch e) _ _ (x1.keep b o z), x1.main⟩, fun b f => fun a o z => fin_keep hk (fun i m e => by cases e; exact f (List.mem_singleton.mp m)) _ _ (x1.mu b f a o z), let ⟨_, _, e⟩ := x1.rest; ⟨h, t, by show ({ w2.s with heap := h, toks := t } : Shared) = _; rw [e]⟩⟩
    exact wpAny_pure ⟨rfl, w2.fin [k] h t, x.trans (x3.weaken fun u0 => .inr), ⟨p.o, I1.fin hk, p.V.step p.o x3 fun j m e => (hid j m).1 e⟩, Gm.go x3.toMono (x3.mu a fun e => hka e.symm) q⟩
  | skip h l t r =>
    subst hn
    exact one j h t fun w' x' p' j' q' => wpAny_pure ⟨rfl, _, Nat.lt_succ_self _, w', _, _, _, x', ⟨p'.o, p'.I, p'.V.weaken h1 l⟩, j', q', r, rfl⟩
  | act h l t y r =>
    subst hn
    exact one j h t fun w' x' p' j' q' => wpAny_bind (wpAny_mono (y p' q') (fun u0 u0 ⟨w2, x2, p2, q2⟩ => wpAny_pure ⟨rfl, _, Nat.lt_succ_self _, w2, _, _, _, x'.trans (x2.weaken fun u0 => .inl), ⟨p2.o, p2.I, p2.V.weaken h1 l⟩, X.stable j' x2 fun e => e.elim (fun e => hL e.symm) hka, q2, r, rfl⟩) fun u0 u0 e => e)
end
end Mine
end
section
open PySem PySem.W PyProof.Rows
namespace Mine
noncomputable def GL (C : Cx) (a : Addr) (l : List D) (w : W) : Prop := HSeq w (.mu a) "list" (RepL C w l) a
noncomputable def GD (C : Cx) (a : Addr) (l : List (Str × D)) (w : W) : Prop := HDict w (.mu a) (IsDs C) (RepS C w l) a
section
variable {C : Cx} {a : Addr} {w : W} {κ : Type}
theorem gat_L : Gat a (GL C a) := ⟨fun M k => HSeq.mono k (RepL.mono M _) _⟩
theorem gat_D : Gat a (GD C a) := ⟨fun M k => HDict.mono k (RepS.mono M _) _⟩
theorem stored_cons [DecidableEq κ] {kvs : List (κ × Value)} {j k : κ} {x v : Value} (hn : (((j, x) :: kvs).map (·.1)).Nodup) : stored ((j, x) :: kvs) k v = if j = k then (j, v) :: kvs else (j, x) :: stored kvs k v := by
  have hn := List.nodup_cons.mp hn
  unfold stored
  by_cases q : j = k
  · subst q
    rw [if_pos (List.any_cons.trans (by rw [decide_eq_true rfl]; rfl)), if_pos rfl, List.map_cons, if_pos rfl, map_store_of_not_mem kvs j v hn.1]
  · rw [if_neg q, List.any_cons, decide_eq_false q, Bool.false_or, List.map_cons, if_neg q]
    split <;> rfl
theorem repK_stored [DecidableEq κ] : ∀ {l : List (κ × D)} {kvs : List (κ × Value)} {k : κ} {d : D} {v : Value}, RepK C w l kvs → (kvs.map (·.1)).Nodup → Rep C w d v → RepK C w (kset l k d) (stored kvs k v)
  | [], _, k, d, v, r, hn, a => by cases r; exact ⟨v, [], a, rfl⟩
  | (j, x) :: l, _, k, d, v, ⟨y, r', e, b⟩, hn, a => by
    rw [stored_cons hn]
    show RepK C w (if j = k then (j, d) :: l else (j, x) :: kset l k d) _
    by_cases q : j = k
    · rw [if_pos q, if_pos q]; exact ⟨v, r', a, b⟩
    · rw [if_neg q, if_neg q]; exact ⟨y, _, e, repK_stored b (List.nodup_cons.mp hn).2 a⟩
theorem isDictOf_nodup [DecidableEq κ] {prog : Program} {w : World} {knd : KeyKind prog w κ} {o : Obj} {kvs : List (κ × Value)} (x : o.IsDictOf knd kvs) : (kvs.map (·.1)).Nodup := let ⟨_, _, _, _, _, _, r⟩ := x; r
end
section
variable {K : Ctx} {a : Addr} {ρ : Rho} {σ σ' σ₁ : St} {d : D} {w w' : W}
theorem own_step {h : Heap} {t : Tok} {o o' : Obj} (p : Ok K ρ σ w) (ha : a ∉ K.ids) (z : At w (.mu a) a o) (e : h.get? a = some o') (hs : ∀ b, b ≠ a → h.get? b = w.s.heap.get? b) :
    Step (· = a) w (w.put [] .fz h t []) ∧ Ok K ρ σ (w.put [] .fz h t []) ∧ At (w.put [] .fz h t []) (.mu a) a o' :=
  have hk : ∀ b o, w.tag b ≠ .mu a → w.s.heap.get? b = some o → h.get? b = some o := fun b o n e => (hs b fun q => n (q ▸ z.tag)).trans e
  have x : Step (· = a) w (w.put [] .fz h t []) := .priv hk
  ⟨x, ⟨p.o, p.I.priv hk fun b u0 ⟨o, q⟩ => by
    by_cases n : b = a
    · exact ⟨o', n ▸ e⟩
    · exact ⟨o, (hs b n).trans q⟩, p.V.step p.o x fun j m e => ha (e ▸ m)⟩, z.tag, e⟩
theorem TG_list {elt : Expr} {l : List D} (he : TE K ρ (eval elt K.env) σ d σ') (ha : a ∉ K.ids) (hz : l.length < 16777216) : TG K a (GL K.C a) ρ (emitL elt (.ref a) K.env) σ l σ' (l ++ [d]) := fun u0 u0 p q =>
  wpAny_bind (he.go p fun v w1 n => by
    obtain ⟨vs, k, z, r⟩ := gat_L.go n.x.toMono (n.x.mu a id) q
    refine wpAny_bind (wpAny_list_append_plain ⟨k, z.is⟩ (fun h' hp hs => ?_) (by rw [sizeLine_is, List.size_toArray, r.length]; exact Nat.le_of_lt hz))
    obtain ⟨k', e'⟩ := hp
    obtain ⟨x2, p2, z2⟩ := own_step (t := w1.s.toks) n.p ha z e' hs.2
    exact wpAny_pure ⟨_, n.x.ofN.trans (x2.weaken fun u0 => .inr), p2, vs ++ [v], k', by rw [show seqObj "list" (vs ++ [v]) k' = { cls := .type "list", data := .seq (vs.toArray.push v) k' } by rw [List.push_toArray]]; exact z2, (x2.repL r).append ⟨v, [], x2.rep n.r, rfl⟩⟩)
theorem TG_dict {kx vx : Expr} {k : Str} {l : List (Str × D)} (hk : TE K ρ (eval kx K.env) σ (.str k) σ₁) (hv : TE K ρ (eval vx K.env) σ₁ d σ') (ha : a ∉ K.ids) (hz : l.length < 16777216) : TG K a (GD K.C a) ρ (emitD kx vx a K.env) σ l σ' (kset l k d) := fun u0 u0 p q =>
  wpAny_bind (hk.go p fun kv w1 n1 => wpAny_bind (wpAny_holding (hv.go n1.p fun vv w2 n2 => by
    have x12 := n1.x.trans n2.x
    obtain ⟨o, kvs, ne, z, hd, r⟩ := gat_D.go x12.toMono (x12.mu a id) q
    obtain ⟨t, e⟩ := n2.x.rep n1.r
    subst e
    refine wpAny_bind (wpAny_standAt (wpAny_holding (wpAny_dictSet_pairs (knd := strKind K.C.prog K.C.w) (k := k) (hsz := by rw [sizeLine_is, repK_len (repS_K l ▸ r)]; exact Nat.le_of_lt hz) (strKind_is _ _ _ _) (ds_mapOf z hd) fun h' hp hs' => ?_)))
    obtain ⟨o', e', hd'⟩ := Heap.dictOf_iff.mp hp
    obtain ⟨x3, p3, z3⟩ := own_step (t := w2.s.toks + 1) n2.p ha z e' hs'.2
    exact ⟨_, x12.ofN.trans (x3.weaken fun u0 => .inr), p3, o', _, ne, z3, hd', by rw [repS_K]; exact repK_stored (by rw [← repS_K]; exact RepS.mono x3.toMono _ _ r) (isDictOf_nodup hd) (x3.rep n2.r)⟩)))
theorem TT_nil : TB K ρ (testsOf [] K.env) σ true σ := fun w u0 p => by
  unfold testsOf
  rw [List.forIn_nil]
  exact wpAny_pure ⟨w, .refl _ _, p.I⟩
theorem TT_one {c : Expr} {b : Bool} (h : TB K ρ (isTrue c K.env (eval c K.env)) σ b σ') : TB K ρ (testsOf [c] K.env) σ b σ' := fun u0 u0 p => by
  unfold testsOf
  rw [List.forIn_cons]
  exact wpAny_bind (wpAny_bind (h.go p fun w1 x1 p1 => wpAny_pure (show wpAny _ _ (forIn [] b _) _ _ _ from by rw [List.forIn_nil]; exact wpAny_pure ⟨w1, x1, p1.I⟩)))
section
variable {α : Type} {target elt : Expr} {ifs : List Expr}
theorem CRun.list (ha : a ∉ K.ids) (e f : α → D) (p : α → Bool) : ∀ (xs : List α) (n : List D), n.length + xs.length ≤ 16777216 → (∀ x ∈ xs, ∃ ρ₁, Asg K target (e x) ρ ρ₁ ∧ Le ρ ρ₁ ∧ TB K ρ₁ (testsOf ifs K.env) σ (p x) σ ∧ (p x = true → TE K ρ₁ (eval elt K.env) σ (f x) σ)) →
    CRun K a (GL K.C a) target ifs (emitL elt (.ref a) K.env) ρ (xs.map e) σ n σ (n ++ (xs.filter p).map f)
  | [], n, _, _ => (List.append_nil n).symm ▸ .nil
  | x :: xs, n, hz, h => by
    obtain ⟨ρ₁, h1, h2, h3, h4⟩ := h x (.head _)
    rw [List.length_cons] at hz
    rw [List.map_cons, List.filter_cons]
    cases q : p x with
    | false => exact .skip h1 h2 (q ▸ h3) (CRun.list ha e f p xs n (by omega) fun y m => h y (.tail _ m))
    | true =>
      have ih := CRun.list ha e f p xs (n ++ [f x]) (by rw [List.length_append]; exact (by omega : n.length + 1 + xs.length ≤ 16777216)) fun y m => h y (.tail _ m)
      rw [List.append_assoc] at ih
      exact .act h1 h2 (q ▸ h3) (TG_list (h4 q) ha (by omega)) ih
theorem CRun.map (ha : a ∉ K.ids) (e f : α → D) (xs : List α) (hz : xs.length ≤ 16777216) (h : ∀ x ∈ xs, ∃ ρ₁, Asg K target (e x) ρ ρ₁ ∧ Le ρ ρ₁ ∧ TE K ρ₁ (eval elt K.env) σ (f x) σ) :
    CRun K a (GL K.C a) target [] (emitL elt (.ref a) K.env) ρ (xs.map e) σ [] σ (xs.map f) := by
  have := CRun.list (ifs := []) (elt := elt) ha e f (fun u0 => true) xs [] (by rw [List.length_nil, Nat.zero_add]; exact hz) fun x m => let ⟨ρ₁, a, b, c⟩ := h x m; ⟨ρ₁, a, b, TT_nil, fun u0 => c⟩
  rwa [List.filter_eq_self.mpr fun u0 u0 => rfl, List.nil_append] at this
theorem kset_new {κ : Type} [DecidableEq κ] : ∀ {l : List (κ × D)} {k : κ}, k ∉ l.map (·.1) → ∀ d, kset l k d = l ++ [(k, d)]
  | [], _, _, _ => rfl
  | (j, x) :: l, k, h, d => (if_neg fun (q : j = k) => h (q ▸ .head _)).trans (congrArg ((j, x) :: ·) (kset_new (fun m => h (.tail _ m)) d))
theorem CRun.dict {kx vx : Expr} (ha : a ∉ K.ids) (e f : α → D) (k : α → Str) (p : α → Bool) : ∀ (xs : List α) (n : List (Str × D)), n.length + xs.length ≤ 16777216 → (n.map (·.1) ++ (xs.filter p).map k).Nodup →
    (∀ x ∈ xs, ∃ ρ₁, Asg K target (e x) ρ ρ₁ ∧ Le ρ ρ₁ ∧ TB K ρ₁ (testsOf ifs K.env) σ (p x) σ ∧ (p x = true → TE K ρ₁ (eval kx K.env) σ (.str (k x)) σ ∧ TE K ρ₁ (eval vx K.env) σ (f x) σ)) →
    CRun K a (GD K.C a) target ifs (emitD kx vx a K.env) ρ (xs.map e) σ n σ (n ++ (xs.filter p).map fun x => (k x, f x))
  | [], n, _, _, _ => (List.append_nil n).symm ▸ .nil
  | x :: xs, n, hz, hn, h => by
    obtain ⟨ρ₁, h1, h2, h3, h4⟩ := h x (.head _)
    rw [List.length_cons] at hz
    rw [List.filter_cons] at hn
    rw [List.map_cons, List.filter_cons]
    cases q : p x with
    | false => rw [q] at hn; exact .skip h1 h2 (q ▸ h3) (CRun.dict ha e f k p xs n (by omega) hn fun y m => h y (.tail _ m))
    | true =>
      rw [q] at hn
      have nk : k x ∉ n.map (·.1) := fun m => (List.nodup_append.mp hn).2.2 _ m _ (.head _) rfl
      have ih := CRun.dict ha e f k p xs (n ++ [(k x, f x)]) (by rw [List.length_append]; exact (by omega : n.length + 1 + xs.length ≤ 16777216)) (by rw [List.map_append, List.append_assoc]; exact hn) fun y m => h y (.tail _ m)
      rw [List.append_assoc] at ih
      exact .act h1 h2 (q ▸ h3) (kset_new nk (f x) ▸ TG_dict (h4 q).1 (h4 q).2 ha (by omega)) ih
end
end
end Mine
end
section
open PySem PySem.W PyProof.Rows
namespace Mine
theorem cellsFrom_app : ∀ (names : List (Str × NameKind)) (n : Nat) (acc : List (Str × Addr)), cellsFrom n names acc = cellsFrom n names [] ++ acc
  | [], _, _ => rfl
  | (x, k) :: r, n, acc => by
    unfold cellsFrom
    split
    · rw [cellsFrom_app r (n + 1) ((x, n) :: acc), cellsFrom_app r (n + 1) [(x, n)], List.append_assoc]; rfl
    · exact cellsFrom_app r n acc
theorem cellsFrom_names : ∀ (names : List (Str × NameKind)) (n : Nat) (x : Str) (c : Addr), (x, c) ∈ cellsFrom n names [] → (x, NameKind.cell) ∈ names
  | (y, k) :: r, n, x, c, h => by
    unfold cellsFrom at h
    split at h
    · rename_i hk
      rw [cellsFrom_app] at h
      rcases List.mem_append.mp h with h | h
      · exact .tail _ (cellsFrom_names r _ x c h)
      · cases List.mem_singleton.mp h; cases eq_of_beq hk; exact .head _
    · exact .tail _ (cellsFrom_names r _ x c h)
theorem cellsFrom_has : ∀ (names : List (Str × NameKind)) (n : Nat) (x : Str), (x, NameKind.cell) ∈ names → ∃ c, (x, c) ∈ cellsFrom n names []
  | (y, k) :: r, n, x, h => by
    unfold cellsFrom
    rcases List.mem_cons.mp h with e | h
    · cases e
      rw [if_pos (by rfl), cellsFrom_app]
      exact ⟨n, List.mem_append_right _ (.head _)⟩
    · split
      · obtain ⟨c, hc⟩ := cellsFrom_has r (n + 1) x h
        rw [cellsFrom_app]
        exact ⟨c, List.mem_append_left _ hc⟩
      · exact cellsFrom_has r n x h
theorem lookup_some_of_mem {α : Type} : ∀ {l : List (Str × α)} {x : Str} {c : α}, (x, c) ∈ l → ∃ c', l.lookup x = some c'
  | (y, d) :: r, x, c, h => by
    rw [List.lookup_cons]
    cases hb : x == y with
    | true => exact ⟨d, rfl⟩
    | false => exact (List.mem_cons.mp h).elim (fun e => by cases e; rw [BEq.rfl] at hb; cases hb) fun h => lookup_some_of_mem h
inductive HandOk (K : Ctx) (w : W) (ρ : Rho) (x : Str) (c : Addr) : Prop
  | mk (o : Obj) (ov : Option Value) (t : Tag) (z : At w t c o) (e : o.data = .cell ov) (ht : t = .fz ∨ ∃ k ∈ K.ids, t = .mu k) (val : ∀ (i : Nat) d, K.ns[i]? = some x → ρ[i]? = some (some d) → ∃ v, ov = some v ∧ Rep K.C w d v)
structure FrameAt (K : Ctx) (w : W) (names : List (Str × NameKind)) (cl : List (Str × Addr)) (ρ : Rho) : Prop where
  room : Rm K.k K.A
  scope : K.env.scope = K.fd.scope
  kind : K.env.scope.kind = .function
  glob : K.env.globals = mainGlobals
  bi : K.env.builtins = builtinsNs
  nd : K.ns.Nodup
  loc : K.L = w.s.heap.objs.size
  cells : K.env.cells = cellsFrom (w.s.heap.objs.size + 1) names cl
  id : K.L ∈ K.ids
  ids : ∀ j ∈ K.ids, j = K.L ∨ ∃ o, At w (.mu j) j o
  bl : ∀ i ∈ K.own, ∀ d, ρ[i]? ≠ some (some d)
  bt : ∀ i ∈ K.own, K.tagOf ρ i = .mu K.L
  all : ∀ (i : Nat) x, K.ns[i]? = some x → K.env.kindOf x = some .local ∨ (x, NameKind.cell) ∈ names → i ∈ K.own
  own : ∀ i ∈ K.own, ∀ x, K.ns[i]? = some x → K.env.kindOf x = some .local ∨ K.env.kindOf x = some .cell ∧ (x, NameKind.cell) ∈ names
  has : ∀ x, K.Cl x → (x, NameKind.cell) ∈ names ∨ ∃ c, cl.lookup x = some c
  hand : ∀ x c, cl.lookup x = some c → HandOk K w ρ x c
inductive NewF (K : Ctx) (w : W) (σ : St) (ρ : Rho) : Shared → Prop
  | mk (w' : W) (x : Step NoF w w') (p : Ok K ρ σ w') : NewF K w σ ρ w'.s
theorem frame_new {K : Ctx} {w : W} {σ : St} {names : List (Str × NameKind)} {cl : List (Str × Addr)} {ρ : Rho} (F : FrameAt K w names cl ρ) (I : Inv K.C σ w) (T : Value) (t : Tok) :
    NewF K w σ ρ { w.s with heap := pushCells (w.s.heap.push { cls := T, data := .dict #[] }) names, toks := t } := by
  have f0 := Heap.fresh0 w.s.heap
  have ok := cellsFrom_ok names (w.s.heap.push { cls := T, data := .dict #[] }) (w.s.heap.objs.size + 1) [] ⟨(fun u0 u0 hm => nomatch hm), List.Pairwise.nil⟩ (by rw [Heap.size_push]; exact Nat.le_refl _)
  rw [Heap.size_push] at ok
  have hkp := pushCells_keeps names (w.s.heap.push { cls := T, data := .dict #[] })
  have gl := hkp _ _ (Heap.get?_push_size w.s.heap (o := { cls := T, data := .dict #[] }) rfl)
  generalize pushCells (w.s.heap.push { cls := T, data := .dict #[] }) names = h at ok hkp gl ⊢
  have hcn := cellsFrom_names names (w.s.heap.objs.size + 1)
  have hch := cellsFrom_has names (w.s.heap.objs.size + 1)
  have hc := F.cells.trans (cellsFrom_app _ _ _)
  generalize cellsFrom (w.s.heap.objs.size + 1) names [] = cs at ok hcn hch hc
  rw [← F.loc] at f0 ok gl
  have hk : ∀ b o, w.s.heap.get? b = some o → h.get? b = some o := fun b o e => hkp b o (Heap.get?_push_of_some _ e)
  have fresh : ∀ b ∈ K.L :: cs.map (·.2), w.s.heap.get? b = none := fun b m => (List.mem_cons.mp m).elim (fun e => e ▸ f0) fun m => by
    obtain ⟨⟨x, c⟩, m', rfl⟩ := List.mem_map.mp m
    exact dead_of fun ⟨o, q⟩ => absurd (Heap.lt_size q) (Nat.not_lt.mpr (F.loc ▸ Nat.le_of_succ_le (ok.empty x c m').2))
  have c : Chg NoX w (w.put (K.L :: cs.map (·.2)) (.mu K.L) h t []) := .put fun t' u0 b o z => ⟨fun m => z.alive.no (fresh b m), hk b o z.is⟩
  have X : Step NoF w (w.put (K.L :: cs.map (·.2)) (.mu K.L) h t []) := c.step id fun u0 q => q.elim
  have zl : At (w.put (K.L :: cs.map (·.2)) (.mu K.L) h t []) (.mu K.L) K.L { cls := T, data := .dict #[] } := ⟨if_pos (.head _), gl⟩
  have look : ∀ x c, K.env.cells.lookup x = some c → cs.lookup x = some c ∨ cs.lookup x = none ∧ cl.lookup x = some c := fun x c e => by
    rw [hc, List.lookup_append] at e
    cases q : cs.lookup x with
    | none => rw [q] at e; exact .inr ⟨rfl, e⟩
    | some c' => rw [q] at e; exact .inl e
  have looks : ∀ x c, cs.lookup x = some c → K.env.cells.lookup x = some c := fun x c e => by rw [hc, List.lookup_append, e]; rfl
  have inCs : ∀ x, (x, NameKind.cell) ∈ names → ∃ c, cs.lookup x = some c := fun x hx => let ⟨_, m⟩ := hch x hx; lookup_some_of_mem m
  have new : ∀ x c, cs.lookup x = some c → ∃ o, At (w.put (K.L :: cs.map (·.2)) (.mu K.L) h t []) (.mu K.L) c o ∧ o.data = .cell none ∧ c ≠ K.L := fun x c e => by
    have m := mem_of_lookup e
    obtain ⟨⟨o, e1, e2⟩, hlo⟩ := ok.empty x c m
    exact ⟨o, ⟨if_pos (.tail _ (List.mem_map.mpr ⟨_, m, rfl⟩)), e1⟩, e2, fun q => Nat.lt_irrefl _ (q ▸ hlo)⟩
  refine ⟨_, X, ⟨F.room, F.scope, F.kind, F.glob, F.bi, F.nd, F.id, fun i hi x e => (F.own i hi x e).imp id (·.1), fun x q => (F.has x q).elim (fun q => let ⟨c, e⟩ := inCs x q; ⟨c, looks x c e⟩) fun ⟨c, e⟩ => ?_, fun i hi x y c' e1 e2 e3 e4 => ?_⟩,
    I.put c id (fun u0 => id) (fun b m => (List.mem_cons.mp m).elim (fun e => e ▸ ⟨_, gl⟩) fun m => ?_) (fun b ⟨o, e⟩ => ⟨o, hk b o e⟩) (fun b m q => nomatch (I.dead b (fresh b m)).symm.trans q) (fun j e => by cases e; exact ⟨_, zl⟩) (fun u0 e => nomatch e),
    ⟨_, #[], 0, zl, rfl, (fun u0 m => nomatch m), fun i x d e1 e2 e3 => (F.bl i (F.all i x e1 (.inl e2)) d e3).elim⟩, fun x c' e => (look x c' e).elim (fun q => ?_) fun ⟨q, e⟩ => ?_, fun j m => (F.ids j m).elim (fun e => by rw [e]; exact ⟨_, zl⟩) fun ⟨o, z⟩ => ⟨o, X.mu j id _ _ z⟩⟩
  · cases q : cs.lookup x with
    | some c' => exact ⟨c', looks x c' q⟩
    | none => exact ⟨c, by rw [hc, List.lookup_append, q]; exact e⟩
  · have hx : (x, NameKind.cell) ∈ names := (F.own i hi x e1).elim (fun q => nomatch e2.symm.trans q) (·.2)
    obtain ⟨c₂, q⟩ := inCs x hx
    cases (looks x c₂ q).symm.trans e3
    rcases look y _ e4 with z | ⟨_, z⟩
    · exact name_of_addr ok.apart (mem_of_lookup q) (mem_of_lookup z)
    · obtain ⟨o, u1, u2, z, u3⟩ := F.hand y _ z
      exact (z.alive.no (fresh _ (.tail _ (List.mem_map.mpr ⟨_, mem_of_lookup q, rfl⟩)))).elim
  · obtain ⟨⟨x, c⟩, m', rfl⟩ := List.mem_map.mp m
    obtain ⟨⟨o, e1, u1⟩, u2⟩ := ok.empty x c m'
    exact ⟨o, e1⟩
  · obtain ⟨o, z, e1, ne⟩ := new x c' q
    exact ⟨o, none, _, z, e1, ne, .inr ⟨_, F.id, rfl⟩, (fun i d a b e => (F.bl i (F.all i x a (.inr (hcn x c' (mem_of_lookup q)))) d e).elim), fun i hi a b => (F.bt i hi).symm⟩
  · obtain ⟨o, ov, t', z, e1, ht, val⟩ := F.hand x c' e
    refine ⟨o, ov, t', c.keep t' id _ _ z, e1, fun q => z.alive.no (q ▸ f0), ht, fun i d a u0 b => let ⟨v, p, r⟩ := val i d a b; ⟨v, p, X.rep r⟩, fun i hi a b => ?_⟩
    obtain ⟨c₂, q₂⟩ := inCs x ((F.own i hi x a).elim (fun q => nomatch b.symm.trans q) (·.2))
    exact nomatch q.symm.trans q₂
end Mine
end
section
open PySem PySem.W PyProof.Rows
namespace Mine
noncomputable abbrev freeStep (env : Env) (p : Str × NameKind) (cs : List (Str × Addr)) : Sem (ForInStep (List (Str × Addr))) := if (p.2 == .free) = true then (do let c ← cellOf env p.1; pure (ForInStep.yield ((p.1, c) :: cs))) else pure (ForInStep.yield cs)
structure ClOk (env : Env) (names : List (Str × NameKind)) (acc cl : List (Str × Addr)) : Prop where
  run : (forIn names acc (freeStep env) : Sem (List (Str × Addr))) = pure cl
  from' : ∀ x c, cl.lookup x = some c → (env.cells.lookup x = some c ∧ (x, NameKind.free) ∈ names) ∨ acc.lookup x = some c
  has : ∀ x, (x, NameKind.free) ∈ names → ∃ c, cl.lookup x = some c
  old : ∀ x c, acc.lookup x = some c → ∃ c', cl.lookup x = some c'
theorem closure_go {env : Env} : ∀ (names : List (Str × NameKind)) (acc : List (Str × Addr)), (∀ x, (x, NameKind.free) ∈ names → ∃ c, env.cells.lookup x = some c) → ∃ cl, ClOk env names acc cl
  | [], acc, _ => ⟨acc, List.forIn_nil .., fun x c e => .inr e, (fun x h => nomatch h), fun x c e => ⟨c, e⟩⟩
  | (n, k) :: r, acc, h => by
    have hr : ∀ x, (x, NameKind.free) ∈ r → ∃ c, env.cells.lookup x = some c := fun x hx => h x (.tail _ hx)
    by_cases hk : k = .free
    · subst hk
      obtain ⟨c0, hc0⟩ := h n (.head _)
      obtain ⟨cl, e⟩ := closure_go r ((n, c0) :: acc) hr
      have hself : ((n, c0) :: acc).lookup n = some c0 := by rw [List.lookup_cons, BEq.rfl]
      refine ⟨cl, (List.forIn_cons ..).trans ?_, fun x c e' => ?_, fun x hx => (List.mem_cons.mp hx).elim (fun q => by cases q; exact e.old n c0 hself) (e.has x), fun x c e' => ?_⟩
      · show (do let r ← (do let c ← cellOf env n; pure (ForInStep.yield ((n, c) :: acc))); _) = _
        rw [show cellOf env n = pure c0 by unfold cellOf; rw [hc0]]
        exact e.run
      · rcases e.from' x c e' with q | q
        · exact .inl ⟨q.1, .tail _ q.2⟩
        · rw [List.lookup_cons] at q
          cases hx : x == n with
          | true => rw [hx] at q; cases q; cases eq_of_beq hx; exact .inl ⟨hc0, .head _⟩
          | false => rw [hx] at q; exact .inr q
      · cases hx : x == n with
        | true => exact eq_of_beq hx ▸ e.old n c0 hself
        | false => exact e.old x c (by rw [List.lookup_cons, hx]; exact e')
    · obtain ⟨cl, e⟩ := closure_go r acc hr
      refine ⟨cl, (List.forIn_cons ..).trans ?_, fun x c e' => (e.from' x c e').imp (fun q => ⟨q.1, .tail _ q.2⟩) id, fun x hx => (List.mem_cons.mp hx).elim (fun q => by cases q; exact absurd rfl hk) (e.has x), e.old⟩
      rw [show freeStep env (n, k) acc = pure (ForInStep.yield acc) from if_neg fun q => hk (eq_of_beq q)]
      exact e.run
theorem closure_ok {scope : Scope} {env : Env} (h : ∀ x, (x, NameKind.free) ∈ scope.names → ∃ c, env.cells.lookup x = some c) : ∃ cl, closureFor scope env = pure cl ∧ ClOk env scope.names [] cl :=
  let ⟨cl, e⟩ := closure_go scope.names [] h
  ⟨cl, (bind_pure _).trans e.run, e⟩
noncomputable def relabS (scope outer : Scope) : Scope :=
  { scope with names := scope.names.map fun (n, k) => if (k == .free && outer.kind == .function && outer.names.lookup n == some .cell) then (n, .cell) else (n, k) }
theorem relab_lookup {outer : Scope} (x : Str) : ∀ names : List (Str × NameKind), (names.map fun (n, k) => if (k == NameKind.free && outer.kind == .function && outer.names.lookup n == some .cell) then (n, NameKind.cell) else (n, k)).lookup x =
    (names.lookup x).map fun k => if (k == NameKind.free && outer.kind == .function && outer.names.lookup x == some .cell) then NameKind.cell else k
  | [] => rfl
  | (n, k) :: r => by
    have ih := relab_lookup (outer := outer) x r
    rw [List.map_cons, List.lookup_cons]
    cases hc : (k == NameKind.free && outer.kind == .function && outer.names.lookup n == some .cell)
    all_goals
      cases hx : x == n with
      | true => cases eq_of_beq hx; simp only [hc, List.lookup_cons, BEq.rfl, Bool.false_eq_true, if_true, if_false, Option.map_some]
      | false => simp only [List.lookup_cons, hx, Bool.false_eq_true, if_true, if_false]; exact ih
theorem relab_cases {scope outer : Scope} {x : Str} {k : NameKind} (h : (relabS scope outer).names.lookup x = some k) : scope.names.lookup x = some k ∨ scope.names.lookup x = some .free ∧ k = .cell := by
  have h := (relab_lookup x _).symm.trans h
  obtain ⟨j, e, q⟩ := Option.map_eq_some_iff.mp h
  cases hc : (j == NameKind.free && outer.kind == .function && outer.names.lookup x == some .cell) with
  | true => rw [hc] at q; exact .inr ⟨by rw [Bool.and_eq_true, Bool.and_eq_true] at hc; rw [e, eq_of_beq hc.1.1], q.symm⟩
  | false => rw [hc] at q; exact .inl (e.trans (congrArg _ q))
theorem relab_keep {scope outer : Scope} {x : Str} {k : NameKind} (h : scope.names.lookup x = some k) (hk : (k == .free) = false) : (relabS scope outer).names.lookup x = some k :=
  (relab_lookup x _).trans (by rw [h, Option.map_some, hk]; rfl)
noncomputable def blank (own : List Nat) : Nat → Rho → Rho
  | _, [] => []
  | n, o :: r => (if own.contains n then none else o) :: blank own (n + 1) r
theorem blank_get {own : List Nat} : ∀ (n : Nat) (ρ : Rho) (i : Nat), (blank own n ρ)[i]? = ρ[i]?.map fun o => if own.contains (n + i) then none else o
  | _, [], _ => rfl
  | n, o :: r, 0 => rfl
  | n, o :: r, i + 1 => (blank_get (n + 1) r i).trans (by rw [Nat.add_assoc, Nat.add_comm 1 i]; rfl)
theorem blank_some {own : List Nat} {ρ : Rho} {i : Nat} {d : D} (h : (blank own 0 ρ)[i]? = some (some d)) : ρ[i]? = some (some d) ∧ i ∉ own := by
  rw [blank_get, Nat.zero_add] at h
  obtain ⟨o, e, q⟩ := Option.map_eq_some_iff.mp h
  split at q
  · cases q
  · exact ⟨q ▸ e, fun m => ‹¬ _› (List.contains_iff_mem.mpr m)⟩
noncomputable def nodupB : List Str → Bool
  | [] => true
  | a :: r => !r.contains a && nodupB r
theorem nodupB_ok : ∀ {l : List Str}, nodupB l = true → l.Nodup
  | [], _ => .nil
  | a :: r, h => have h := Bool.and_eq_true_iff.mp h; List.nodup_cons.mpr ⟨(fun m => by rw [List.contains_iff_mem.mpr m] at h; exact nomatch h.1), nodupB_ok h.2⟩
noncomputable def nmB (f : Str → Bool) (own : List Nat) : Nat → List Str → Bool
  | _, [] => true
  | n, x :: r => (own.contains n == f x) && nmB f own (n + 1) r
theorem nmB_ok {f : Str → Bool} {own : List Nat} : ∀ {n : Nat} {l : List Str}, nmB f own n l = true → ∀ i x, l[i]? = some x → own.contains (n + i) = f x
  | _, _ :: _, h, 0, x, e => by cases e; exact eq_of_beq (Bool.and_eq_true_iff.mp h).1
  | n, _ :: _, h, i + 1, x, e => by rw [show n + (i + 1) = n + 1 + i by omega]; exact nmB_ok (Bool.and_eq_true_iff.mp h).2 i x e
noncomputable def ownK (scope : Scope) (x : Str) : Bool := scope.names.lookup x == some .local || scope.names.lookup x == some .cell
noncomputable def compB (f : Fd) (scope : Scope) (own : List Nat) : Bool :=
  scope.kind == .function && nodupB (scope.names.map (·.1)) && (scope.names.all fun p => !(p.2 == .free) || (f.scope.names.lookup p.1 == some .cell || f.scope.names.lookup p.1 == some .free)) && nmB (ownK scope) own 0 f.ns
structure CompOk (f : Fd) (scope : Scope) (own : List Nat) : Prop where
  fn : scope.kind = .function
  nd : ∀ x k, (x, k) ∈ scope.names → scope.names.lookup x = some k
  fre : ∀ x, (x, NameKind.free) ∈ scope.names → f.scope.names.lookup x = some .cell ∨ f.scope.names.lookup x = some .free
  own : ∀ (i : Nat) x, f.ns[i]? = some x → (i ∈ own ↔ scope.names.lookup x = some .local ∨ scope.names.lookup x = some .cell)
theorem lookup_nodup {α : Type} : ∀ {l : List (Str × α)}, (l.map (·.1)).Nodup → ∀ {x k}, (x, k) ∈ l → l.lookup x = some k
  | (y, j) :: r, h, x, k, m => by
    have h := List.nodup_cons.mp h
    rw [List.lookup_cons]
    rcases List.mem_cons.mp m with e | m
    · cases e; rw [BEq.rfl]
    · rw [beq_false_of_ne fun (e : x = y) => h.1 (e ▸ List.mem_map.mpr ⟨_, m, rfl⟩)]; exact lookup_nodup h.2 m
theorem compB_ok {f : Fd} {scope : Scope} {own : List Nat} (h : compB f scope own = true) : CompOk f scope own := by
  have h := Bool.and_eq_true_iff.mp h
  have h1 := Bool.and_eq_true_iff.mp h.1
  have h2 := Bool.and_eq_true_iff.mp h1.1
  refine ⟨eq_of_beq h2.1, fun x k m => lookup_nodup (nodupB_ok h2.2) m, fun x m => ?_, fun i x e => ?_⟩
  · have := Bool.or_eq_true_iff.mp (List.all_eq_true.mp h1.2 _ m)
    exact this.elim (fun q => nomatch q) fun q => (Bool.or_eq_true_iff.mp q).imp eq_of_beq eq_of_beq
  · have := nmB_ok h.2 i x e
    rw [Nat.zero_add] at this
    rw [← List.contains_iff_mem, this]
    exact Bool.or_eq_true_iff.trans (or_congr beq_iff_eq beq_iff_eq)
noncomputable def Ctx.sub (K : Ctx) (scope : Scope) (own : List Nat) (env : Env) : Ctx := ⟨K.C, K.A, K.k, env, ⟨relabS scope K.fd.scope, K.fd.ns, own, []⟩, env.locals :: K.ids⟩
noncomputable def compEnv (scope : Scope) (cl : List (Str × Addr)) (L : Addr) (env : Env) : Env :=
  { newEnv scope L env.globals (cellsFrom (L + 1) scope.names cl) env.qual none .none (some env) builtinsNs with scope := relabel scope env }
theorem comp_frame {K : Ctx} {w : W} {σ : St} {ρ : Rho} {scope : Scope} {own : List Nat} {cl : List (Str × Addr)} (S : CompOk K.fd scope own) (p : Ok K ρ σ w) (cl' : ClOk K.env scope.names [] cl) :
    FrameAt (K.sub scope own (compEnv scope cl w.s.heap.objs.size K.env)) w scope.names cl (blank own 0 ρ) where
  room := p.o.room
  scope := by show relabel scope K.env = relabS scope K.fd.scope; rw [← p.o.scope]; rfl
  kind := S.fn
  glob := p.o.glob
  bi := p.o.bi
  nd := p.o.nd
  loc := rfl
  cells := rfl
  id := .head _
  ids j m := (List.mem_cons.mp m).imp id (p.V.ids j)
  bl i m d e := (blank_some e).2 m
  bt i m := Ctx.tagOf_none rfl
  all i x e h := (S.own i x e).mpr (h.elim (fun h => .inl ((relab_cases (outer := K.env.scope) h).elim id fun q => nomatch q.2)) fun h => .inr (S.nd x _ h))
  own i m x e := ((S.own i x e).mp m).imp (fun h => relab_keep (outer := K.env.scope) h rfl) fun h => ⟨relab_keep (outer := K.env.scope) h rfl, mem_of_lookup h⟩
  has x h := by
    have key : scope.names.lookup x = some .cell ∨ scope.names.lookup x = some .free := h.elim (fun h => (relab_cases (outer := K.env.scope) h).imp id (·.1)) fun h => .inr ((relab_cases (outer := K.env.scope) h).elim id (·.1))
    exact key.imp (fun h => mem_of_lookup h) fun h => cl'.has x (mem_of_lookup h)
  hand x c e := by
    rcases cl'.from' x c e with ⟨e1, m⟩ | q
    · obtain ⟨o, ov, t, z, e2, ne, ht, val, u1⟩ := p.V.cel x c e1
      exact ⟨o, ov, t, z, e2, ht.imp id fun ⟨k, m, q⟩ => ⟨k, .tail _ m, q⟩, fun i d a b => val i d a ((S.fre x m).imp (fun h => (p.o.kd x).trans h) fun h => (p.o.kd x).trans h) (blank_some b).1⟩
    · exact nomatch q
end Mine
end
section
open PySem PySem.W PyProof.Rows
namespace Mine
noncomputable def GI (C : Cx) (a : Addr) (l : List (Int × D)) (w : W) : Prop := HDict w (.mu a) (IsDi C) (RepI C w l) a
inductive OutP (C : Cx) (w : W) (σ : St) (G : Addr → W → Prop) : Value → Shared → Prop
  | mk (w' : W) (a : Addr) (x : Step NoF w w') (I : Inv C σ w') (na : NoT w a) (q : G a w') : OutP C w σ G (.ref a) w'.s
noncomputable def TP (K : Ctx) (ρ : Rho) (t : Sem Value) (σ : St) (G : Addr → W → Prop) (σ' : St) : Prop := ∀ ⦃w : W⦄ ⦃E : Value → Shared → Prop⦄, Ok K ρ σ w → wpAny K.C.M K.A t (OutP K.C w σ' G) E w.s
structure Made (C : Cx) (G : Addr → W → Prop) (d : D) (c : AO) : Prop where
  own : ∀ {a w}, G a w → ∃ o, At w (.mu a) a o
  rest : ∀ {a w w'}, G a w → Mono w w' → (∀ o, At w (.mu a) a o → At w' .fz a o) → Rep C w' d (.ref a)
  loc : ∀ {a w w' n}, G a w → Mono w w' → (∀ o, At w (.mu a) a o → At w' (.ob n) a o) → AOk C w' n c a
theorem made_L {C : Cx} {l : List D} : Made C (fun a => GL C a l) (.lst l) (.lst l) :=
  ⟨fun ⟨_, _, z, _⟩ => ⟨_, z⟩, fun ⟨vs, n, z, r⟩ M h => ⟨_, vs, n, h _ z, RepL.mono M _ _ r⟩, fun ⟨vs, n, z, r⟩ M h => ⟨vs, n, h _ z, RepL.mono M _ _ r⟩⟩
theorem made_D {C : Cx} {l : List (Str × D)} : Made C (fun a => GD C a l) (.ds l) (.ds l) :=
  ⟨fun ⟨_, _, _, z, _, _⟩ => ⟨_, z⟩, fun ⟨o, vs, n, z, e, r⟩ M h => ⟨_, o, vs, n, h _ z, e, RepS.mono M _ _ r⟩, fun ⟨o, vs, n, z, e, r⟩ M h => ⟨o, vs, n, h _ z, e, RepS.mono M _ _ r⟩⟩
theorem made_I {C : Cx} {l : List (Int × D)} : Made C (fun a => GI C a l) (.di l) (.di l) :=
  ⟨fun ⟨_, _, _, z, _, _⟩ => ⟨_, z⟩, fun ⟨o, vs, n, z, e, r⟩ M h => ⟨_, o, vs, n, h _ z, e, RepI.mono M _ _ r⟩, fun ⟨o, vs, n, z, e, r⟩ M h => ⟨o, vs, n, h _ z, e, RepI.mono M _ _ r⟩⟩
noncomputable def W.adopt (w : W) (a : Addr) (n : Nat) : W := ⟨w.s, fun b => match w.tag b with | .mu j => if j = a then .ob n else .mu j | t => t, w.mn ++ [a]⟩
section
variable {C : Cx} {w w' : W} {σ σ' : St} {a b : Addr} {n : Nat} {t : Tag} {d : D} {c : AO} {G : Addr → W → Prop} {v : Value} {s : Shared}
theorem adopt_tag (ht : t ≠ .mu a) (h : w.tag b = t) : (w.adopt a n).tag b = t := by
  show (match w.tag b with | .mu j => if j = a then Tag.ob n else .mu j | t => t) = t
  rw [h]
  cases t with
  | mu j => exact if_neg fun (q : j = a) => ht (q ▸ rfl)
  | _ => rfl
theorem adopt_inv (h : (w.adopt a n).tag b = t) : w.tag b = t ∧ t ≠ .mu a ∨ w.tag b = .mu a ∧ t = .ob n := by
  have h : (match w.tag b with | .mu j => if j = a then Tag.ob n else .mu j | t => t) = t := h
  cases q : w.tag b with
  | mu j =>
    rw [q] at h
    by_cases e : j = a
    · exact .inr ⟨e ▸ rfl, ((if_pos e).symm.trans h).symm⟩
    · have h := (if_neg e).symm.trans h
      exact .inl ⟨h, fun k => e (by cases h.trans k; rfl)⟩
  | fz => rw [q] at h; exact .inl ⟨h, fun k => nomatch h.trans k⟩
  | ob m => rw [q] at h; exact .inl ⟨h, fun k => nomatch h.trans k⟩
theorem adopt_mono : Mono w (w.adopt a n) := ⟨fun b o z => ⟨adopt_tag (t := .fz) (fun q => nomatch q) z.tag, z.is⟩, fun n a e => (List.getElem?_append_left (List.getElem?_eq_some_iff.mp e).1).trans e⟩
theorem Inv.adopt (I : Inv C σ w) (M : Made C G d c) (q : G a w) : Inv C (σ ++ [c]) (w.adopt a σ.length) where
  base b o e := adopt_mono.keep b o (I.base b o e)
  dead b e := adopt_tag (t := .fz) (fun q => nomatch q) (I.dead b e)
  own b k e := by
    rcases adopt_inv e with ⟨e1, ne⟩ | ⟨_, e2⟩
    · obtain ⟨o, z⟩ := I.own b k e1; exact ⟨o, adopt_tag ne z.tag, z.is⟩
    · cases e2
  obj b m e := by
    rw [List.length_append]
    rcases adopt_inv e with ⟨e1, _⟩ | ⟨_, e2⟩
    · exact Nat.lt_succ_of_lt (I.obj b m e1)
    · cases e2; exact Nat.lt_succ_self _
  len := by show (w.mn ++ [a]).length = _; rw [List.length_append, List.length_append, I.len]; rfl
  ok j co a' e1 e2 := by
    have e2 : (w.mn ++ [a])[j]? = some a' := e2
    rcases Nat.lt_or_ge j σ.length with q' | q'
    · rw [List.getElem?_append_left q'] at e1
      rw [List.getElem?_append_left (by rw [I.len]; exact q')] at e2
      exact (I.ok j co a' e1 e2).mono adopt_mono fun b o z => ⟨adopt_tag (t := .ob j) (fun q => nomatch q) z.tag, z.is⟩
    · have q₂ := (List.getElem?_eq_some_iff.mp e1).1
      rw [List.length_append] at q₂
      have : j = σ.length := Nat.le_antisymm (Nat.le_of_lt_succ q₂) q'
      subst this
      rw [List.getElem?_append_right (Nat.le_refl _), Nat.sub_self] at e1
      rw [← I.len, List.getElem?_append_right (Nat.le_refl _), Nat.sub_self] at e2
      cases e1; cases e2
      refine M.loc q adopt_mono fun o z => ⟨?_, z.is⟩
      show (match w.tag a with | .mu j => if j = a then Tag.ob σ.length else .mu j | t => t) = _
      rw [z.tag]; exact if_pos rfl
theorem Step.adopt (x : Step NoF w w') (na : NoT w a) : Step NoF w (w'.adopt a n) where
  keep b o z := adopt_mono.keep b o (x.keep b o z)
  main n a e := adopt_mono.main n a (x.main n a e)
  mu k f b o z := ⟨adopt_tag (fun q => by cases q; exact na b z.tag) (x.mu k f b o z).tag, (x.mu k f b o z).is⟩
  rest := x.rest
inductive Cnv (C : Cx) (w w' : W) (a : Addr) (σ : St) (d : D) : Prop
  | mk (w₂ : W) (e : w₂.s = w'.s) (x : Step NoF w w₂) (I : Inv C σ w₂) (r : Rep C w₂ d (.ref a)) (k : ∀ k, k ≠ a → Keeps w' w₂ (.mu k)) : Cnv C w w' a σ d
theorem cnv_loc (M : Made C G d c) (x : Step NoF w w') (I : Inv C σ w') (na : NoT w a) (q : G a w') : Cnv C w w' a (σ ++ [c]) (.loc σ.length) :=
  ⟨w'.adopt a σ.length, rfl, x.adopt na, I.adopt M q, ⟨a, by show (w'.mn ++ [a])[σ.length]? = _; rw [← I.len, List.getElem?_append_right (Nat.le_refl _), Nat.sub_self]; rfl, rfl⟩, fun k n b o z => ⟨adopt_tag (fun e => n (by cases e; rfl)) z.tag, z.is⟩⟩
theorem fin_self (z : w.tag b = .mu a) : (w.fin [a] w.s.heap w.s.toks).tag b = .fz := by
  show (match w.tag b with | .mu j => if j ∈ [a] then Tag.fz else .mu j | t => t) = _
  rw [z]; exact if_pos (.head _)
theorem cnv_rest (M : Made C G d c) (x : Step NoF w w') (I : Inv C σ w') (na : NoT w a) (q : G a w') : Cnv C w w' a σ d :=
  ⟨w'.fin [a] w'.s.heap w'.s.toks, rfl, .fin (F' := NoF) x (fun u0 u0 u0 e => e) (fun u0 => False.elim) fun j m => List.mem_singleton.mp m ▸ na, I.fin fun u0 u0 u0 e => e,
    M.rest q ⟨fin_keep (t := .fz) (fun u0 u0 u0 e => e) (fun u0 u0 e => nomatch e), fun u0 u0 e => e⟩ fun o z => ⟨fin_self z.tag, z.is⟩, fun k n => fin_keep (fun u0 u0 u0 e => e) fun j m e => n (by cases e; exact List.mem_singleton.mp m)⟩
theorem Cnv.out (h : Cnv C w w' a σ d) : Out C w σ d (.ref a) w'.s := let ⟨w₂, e, x, I, r, _⟩ := h; e ▸ ⟨w₂, x, I, r⟩
theorem OutP.loc (M : Made C G d c) : OutP C w σ G v s → Out C w (σ ++ [c]) (.loc σ.length) v s
  | ⟨w', a, x, I', na, q⟩ => (cnv_loc M x I' na q).out
theorem OutP.rest (M : Made C G d c) : OutP C w σ G v s → Out C w σ d v s
  | ⟨w', a, x, I', na, q⟩ => (cnv_rest M x I' na q).out
theorem OutP.after (I : Inv C σ' w) (x : Step NoF w w') : OutP C w' σ G v s → OutP C w σ G v s
  | ⟨w₂, a, y, I', na, q⟩ => ⟨w₂, a, x.trans y, I', na.back I x, q⟩
end
section
variable {K : Ctx} {ρ : Rho} {σ σ' : St} {t : Sem Value} {G : Addr → W → Prop} {d : D} {c : AO}
theorem TP.loc (M : Made K.C G d c) (h : TP K ρ t σ G σ') : TE K ρ t σ (.loc σ'.length) (σ' ++ [c]) := fun u0 u0 p => wpAny_mono (h p) (fun u0 u0 o => o.loc M) fun u0 u0 e => e
theorem TP.rest (M : Made K.C G d c) (h : TP K ρ t σ G σ') : TE K ρ t σ d σ' := fun u0 u0 p => wpAny_mono (h p) (fun u0 u0 o => o.rest M) fun u0 u0 e => e
end
end Mine
end
section
open PySem PySem.W PyProof.Rows
namespace Mine
theorem wp_newFunctionEnv_comp {M : Model} {A : Around} {E : Value → Shared → Prop} {s : Shared} {scope : Scope} {globals : Addr} {cl : List (Str × Addr)} {qual : Str} {outer : Env} {Q : Env → Shared → Prop}
    (hQ : Q (newEnv scope s.heap.objs.size globals (cellsFrom (s.heap.objs.size + 1) scope.names cl) qual none .none (some outer) builtinsNs) { s with heap := pushCells (s.heap.push { cls := .type "dict", data := .dict #[] }) scope.names }) :
    wpAny M A (newFunctionEnv scope globals cl [] qual none .none (some outer)) Q E s := by
  simp only [newFunctionEnv, Option.isSome_some, if_true]
  refine wpAny_bind (wpAny_alloc ?_)
  refine wpAny_bind (wpAny_layCells _ (fun name kind cells => by cases hkc : kind == NameKind.cell <;> simp) _ _ _ _ ?_)
  rw [show ({ s with heap := s.heap.push { cls := .type "dict", data := .dict #[] } } : Shared).heap.objs.size = s.heap.objs.size + 1 from Heap.size_push ..]
  exact wpAny_bind (wpAny_pure (wpAny_pure hQ))
noncomputable def TIn (K : Ctx) (ρ : Rho) (iter target : Expr) (σ : St) {ι : Type} (N : ι → St → Option D → ι → St → Prop) (i : ι) (σ' : St) : Prop := ∀ ⦃w : W⦄ ⦃E : Value → Shared → Prop⦄, Ok K ρ σ w → wpAny K.C.M K.A (eval iter K.env) (fun x s1 => wpAny K.C.M K.A (pyIter x) (IterO K.C K.A target N i w σ') E s1) E w.s
noncomputable abbrev TI (K : Ctx) (ρ : Rho) (iter target : Expr) (σ : St) (ds : List D) (σ' : St) : Prop := TIn K ρ iter target σ Nl ds σ'
theorem TI_of {K : Ctx} {ρ : Rho} {iter target : Expr} {σ σ' : St} {ds : List D} {d : D} (h : TE K ρ (eval iter K.env) σ d σ') (hi : IterOk d ds) : TI K ρ iter target σ ds σ' := fun u0 u0 p =>
  h.go p fun v w' n => wpAny_mono (hi p.o.room.handled n.p.I n.r) (fun u0 u0 o => o.after p.I n.x) fun u0 u0 e => e
inductive EndC (K : Ctx) (w₀ : W) (σ : St) (G : Addr → W → Prop) (L : Addr) (v : Value) : Shared → Prop
  | mk (w' : W) (a : Addr) (x : Step NoF w₀ w') (I : Inv K.C σ w') (e : v = .ref a) (na : NoT w₀ a) (nl : NoT w₀ L) (hne : a ≠ L) (q : G a w') (o : Obj) (es : Array DictEntry) (ep : Nat) (z : At w' (.mu L) L o) (d : o.data = .dict es ep) (sk : StrKeys es) : EndC K w₀ σ G L v w'.s
structure GMk (C : Cx) {γ : Type} (G : Addr → γ → W → Prop) (obj : Obj) (g0 : γ) (newAcc : Sem Value) : Prop where
  alive : obj.isFreed = false
  gat : ∀ a, Gat a (G a)
  ini : ∀ {a w}, a ≠ sysModules → At w (.mu a) a obj → G a g0 w
  acc : ∀ {A : Around} {s : Shared} {Q E}, Q (.ref s.heap.objs.size) { s with heap := s.heap.push obj } → wpAny C.M A newAcc Q E s
theorem mk_L {C : Cx} : GMk C (GL C) (seqObj "list" [] 0) [] (newList []) := ⟨rfl, fun u0 => gat_L, fun u0 z => ⟨[], 0, z, rfl⟩, fun q => wpAny_newObj_type q⟩
theorem dict_new {C : Cx} {w : W} {t : Tag} {a : Addr} {κ : Type} [DecidableEq κ] {knd : KeyKind C.prog C.w κ} (z : At w t a { cls := .type "dict", data := .dict #[] }) : Obj.IsDictOf knd { cls := .type "dict", data := .dict #[] } [] := by
  obtain ⟨o, e, r⟩ := Heap.dictOf_iff.mp (Heap.DictOf.new (knd := knd) w.s.heap)
  cases (Heap.get?_push_size w.s.heap (o := { cls := .type "dict", data := .dict #[] }) rfl).symm.trans e
  exact r
theorem mk_D {C : Cx} : GMk C (GD C) { cls := .type "dict", data := .dict #[] } [] newDict := ⟨rfl, fun u0 => gat_D, fun ne z => ⟨_, [], ne, z, dict_new z, rfl⟩, fun q => wpAny_newObj_type q⟩
theorem sys_ne {C : Cx} {σ : St} {w : W} (I : Inv C σ w) : w.s.heap.objs.size ≠ sysModules := fun q => by
  obtain ⟨o, es, ep, e, u1⟩ := C.glob
  have := Heap.lt_size (I.base _ _ e).is
  rw [q] at this; exact absurd this (by decide)
section
variable {K : Ctx} {ρ ρ' : Rho} {σ σ₁ σ' : St} {w : W} {scope : Scope} {own : List Nat} {γ : Type} {G : Addr → γ → W → Prop} {obj : Obj} {g0 g' : γ} {newAcc : Sem Value} {e target iter elt : Expr} {ifs : List Expr} {act : Addr → Env → Sem Unit} {ds : List D} {it : Value}
theorem comp_core {cl : List (Str × Addr)} {s₂ : Shared} {E : Value → Shared → Prop} (he : isComp e = true) (hg : (clausesOf e)[0]? = some ⟨target, iter, ifs, 0⟩) (S : CompOk K.fd scope own) (cl' : ClOk K.env scope.names [] cl) (g : GMk K.C G obj g0 newAcc)
    (turn : ∀ it a env, compTurn e 0 it (.ref a) env = turnOf target iter ifs (act a env) (.compLoop e 0 it (.ref a) env) it env) (p : Ok K ρ σ w) (hit : IterO K.C K.A target Nl ds w σ₁ it s₂)
    (hr : ∀ a cenv, a ∉ cenv.locals :: K.ids → CRun (K.sub scope own cenv) a (G a) target ifs (act a cenv) (blank own 0 ρ) ds σ₁ g0 σ' g') :
    wpAny K.C.M K.A newAcc (fun acc s₃ => wpAny K.C.M K.A (newFunctionEnv scope K.env.globals cl [] K.env.qual none .none (some K.env)) (fun cenv s₄ =>
      codeAny K.C.M K.A (.compStart e 0 it acc { cenv with scope := relabel scope K.env }) (fun r s' => r = .ok .next ∧ EndC K w σ' (fun a => G a g') cenv.locals acc s') s₄) E s₃) E s₂ := by
  obtain ⟨w2, k, J, x2, I2, X, j, hn, ok, zk⟩ := hit
  refine g.acc (wp_newFunctionEnv_comp ?_)
  obtain ⟨x3, I3⟩ := new_priv (t := w2.s.toks) I2 g.alive
  have za : At (w2.put [w2.s.heap.objs.size] (.mu w2.s.heap.objs.size) (w2.s.heap.push obj) w2.s.toks []) (.mu w2.s.heap.objs.size) w2.s.heap.objs.size obj := ⟨if_pos (.head _), Heap.get?_push_size _ g.alive⟩
  have na := NoT.of I2 (Heap.fresh0 w2.s.heap)
  have ns := sys_ne I2
  generalize w2.s.heap.objs.size = a at x3 I3 za na ns ⊢
  have p3 := p.next (x2.trans x3) I3
  have hs3 : ({ w2.s with heap := w2.s.heap.push obj } : Shared) = (w2.put [a] (.mu a) (w2.s.heap.push obj) w2.s.toks []).s := rfl
  rw [hs3]
  have ak : a ≠ k := fun q => na k (q ▸ zk.tag)
  have ai : ∀ j ∈ K.ids, j ≠ a ∧ j ≠ k := fun j m => ⟨fun q => by obtain ⟨u1, z⟩ := (p.V.stepN p.o x2).ids j m; exact na _ (q ▸ z.tag), fun q => by obtain ⟨u1, z⟩ := p.V.ids j m; exact hn _ (q ▸ z.tag)⟩
  generalize w2.put [a] (.mu a) (w2.s.heap.push obj) w2.s.toks [] = w3 at x3 I3 za p3 ⊢
  have F := comp_frame S p3 cl'
  obtain ⟨w4, hs4, x4, p4⟩ : ∃ w4 : W, w4.s = { w3.s with heap := pushCells (w3.s.heap.push { cls := .type "dict", data := .dict #[] }) scope.names, toks := w3.s.toks } ∧ Step NoF w3 w4 ∧ Ok (K.sub scope own (compEnv scope cl w3.s.heap.objs.size K.env)) (blank own 0 ρ) σ₁ w4 := by
    have := frame_new F I3 (.type "dict") w3.s.toks
    revert this
    generalize ({ w3.s with heap := pushCells (w3.s.heap.push { cls := .type "dict", data := .dict #[] }) scope.names, toks := w3.s.toks } : Shared) = s4
    rintro ⟨w4, x4, p4⟩
    exact ⟨w4, rfl, x4, p4⟩
  have nl := NoT.of I3 (Heap.fresh0 w3.s.heap)
  have la : w3.s.heap.objs.size ≠ a := fun q => nl _ (q ▸ za.tag)
  have lk : w3.s.heap.objs.size ≠ k := fun q => nl _ (q ▸ (x3.mu k id _ _ zk).tag)
  show codeAny K.C.M K.A (.compStart e 0 it (.ref a) (compEnv scope cl w3.s.heap.objs.size K.env)) (fun r s' => r = .ok .next ∧ EndC K w σ' (fun a => G a g') (compEnv scope cl w3.s.heap.objs.size K.env).locals (.ref a) s') { w3.s with heap := pushCells (w3.s.heap.push { cls := .type "dict", data := .dict #[] }) scope.names, toks := w3.s.toks }
  rw [← hs4]
  have hid : ∀ j ∈ w3.s.heap.objs.size :: K.ids, j ≠ k ∧ j ≠ a := fun j m => (List.mem_cons.mp m).elim (fun q => ⟨q ▸ lk, q ▸ la⟩) fun m => ⟨(ai j m).2, (ai j m).1⟩
  have x34 := x3.trans x4
  refine codeAny_compStart_gen he hg (codeAny_mono (comp_loop (K := K.sub scope own (compEnv scope cl w3.s.heap.objs.size K.env)) he (turn _ _ _) X (g.gat a) rfl p4 hid (Ne.symm ak) (X.stable j x34 id) ((g.gat a).go x4.toMono (x4.mu a id) (g.ini ns za)) (hr a _ fun m => (hid a m).2 rfl)) ?_) fun Q E q => X.self (X.stable j x34 id) q
  rintro r s' ⟨rfl, w5, x5, p5, q5⟩
  obtain ⟨o, es, ep, z, d, sk, u1⟩ := p5.V.loc
  exact ⟨rfl, w5, a, ((x2.trans x34).ofN.trans x5).tight fun b q => .inr (q.elim (fun q => q.elim (fun q => q ▸ nl.back p.I (x2.trans x3)) fun q => q ▸ na.back p.I x2) fun q => q ▸ hn), p5.I, rfl, na.back p.I x2, nl.back p.I (x2.trans x3), Ne.symm la, q5, o, es, ep, z, d, sk⟩
end
end Mine
end
section
open PySem PySem.W PyProof.Rows
namespace Mine
section
variable {K : Ctx} {ρ ρ' : Rho} {σ σ₁ σ' σ₂ : St} {w : W} {scope : Scope} {own : List Nat} {γ : Type} {G : Addr → γ → W → Prop} {obj : Obj} {g0 g' : γ} {newAcc : Sem Value} {e target iter elt kx vx : Expr} {ifs : List Expr} {act : Addr → Env → Sem Unit} {ds : List D} {pos : Pos}
theorem fin_letgo {w' : W} {L : Addr} {o : Obj} {h : Heap} (z : At w' (.mu L) L o) (hs : Heap.SameBut L w'.s.heap h) : ∀ b o, (∀ j ∈ [L], w'.tag b ≠ .mu j) → w'.s.heap.get? b = some o → h.get? b = some o :=
  fun b o n e => (hs.2 b fun q => n L (.head _) (q ▸ z.tag)).trans e
theorem EndC.go {L : Addr} {v : Value} {s : Shared} {E : Value → Shared → Prop} {Gf : Addr → W → Prop} (gat : ∀ {a w w'}, Mono w w' → Keeps w w' (.mu a) → Gf a w → Gf a w') : EndC K w σ Gf L v s → compPost K.C.M K.A E none (OutP K.C w σ Gf) v L (.ok .next) s
  | ⟨w', a, x, I, e, na, nl, hne, q, o, es, ep, z, d, sk⟩ => ⟨nsFind es, ⟨o, es, ep, z.is, d, sk, fun u0 => rfl⟩, fun h hs =>
    have hk := fin_letgo z hs
    e ▸ ⟨w'.fin [L] h w'.s.toks, a, .fin (F' := NoF) x hk (fun u0 => False.elim) fun j m => List.mem_singleton.mp m ▸ nl, I.fin hk, na, gat ⟨fin_keep (t := .fz) hk (fun u0 u0 e => nomatch e), fun u0 u0 e => e⟩ (fin_keep hk fun j m e => hne (by cases e; exact List.mem_singleton.mp m)) q⟩⟩
structure Comp (K : Ctx) (ρ : Rho) (e : Expr) (target iter : Expr) (ifs : List Expr) (scope : Scope) (own : List Nat) (act : Addr → Env → Sem Unit) {γ : Type} (G : Addr → γ → W → Prop) (obj : Obj) (g0 : γ) (newAcc : Sem Value) (rest : List Comprehension) : Prop where
  he : isComp e = true
  hc : clausesOf e = ⟨target, iter, ifs, 0⟩ :: rest
  ok : compB K.fd scope own = true
  gm : GMk K.C G obj g0 newAcc
  turn : ∀ it a env, compTurn e 0 it (.ref a) env = turnOf target iter ifs (act a env) (.compLoop e 0 it (.ref a) env) it env
noncomputable def CRuns (K : Ctx) (ρ : Rho) (target : Expr) (ifs : List Expr) (scope : Scope) (own : List Nat) (act : Addr → Env → Sem Unit) {γ : Type} (G : Addr → γ → W → Prop) (ds : List D) (σ₁ : St) (g0 : γ) (σ' : St) (g' : γ) : Prop :=
  ∀ a cenv, a ∉ cenv.locals :: K.ids → CRun (K.sub scope own cenv) a (G a) target ifs (act a cenv) (blank own 0 ρ) ds σ₁ g0 σ' g'
theorem comp_all {rest : List Comprehension} {use : Option (Value → Sem Unit)} {Q : Value → Shared → Prop} {E : Value → Shared → Prop} (c : Comp K ρ e target iter ifs scope own act G obj g0 newAcc rest) (hs : ∀ x, foldedSetIterable iter K.env x = pure x) (hi : TI K ρ iter target σ ds σ₁)
    (hr : CRuns K ρ target ifs scope own act G ds σ₁ g0 σ' g') (p : Ok K ρ σ w) (hq : ∀ v L s', EndC K w σ' (fun a => G a g') L v s' → compPost K.C.M K.A E use Q v L (.ok .next) s') :
    wpAny K.C.M K.A (comprehension e scope K.env pos newAcc false (eval iter K.env) use) Q E w.s := by
  have S := compB_ok c.ok
  obtain ⟨cl, h1, h2⟩ := closure_ok (scope := scope) (env := K.env) fun x m => p.o.has x ((S.fre x m).imp (fun h => (p.o.kd x).trans h) fun h => (p.o.kd x).trans h)
  refine wpAny_comprehension_free (use := use) c.hc hs h1 S.fn (fun x hx hl => S.nd x.1 _ (hl ▸ hx)) (wpAny_mono (hi p) (fun x s₁ h₁ => wpAny_mono h₁ (fun it s₂ h₂ => ?_) fun u0 u0 e => e) fun u0 u0 e => e)
  refine wpAny_mono (comp_core c.he (congrArg (·[0]?) c.hc) S h2 c.gm c.turn p h₂ hr) (fun acc s₃ h => wpAny_mono h (fun cenv s₄ h => codeAny_mono h ?_) fun u0 u0 e => e) fun u0 u0 e => e
  rintro r s' ⟨rfl, h⟩
  exact hq _ _ _ h
theorem comp_l {ρ : Rho} (h : compB K.fd scope own = true) : Comp K ρ (.ListComp elt [⟨target, iter, ifs, 0⟩] scope pos) target iter ifs scope own (fun a env => emitL elt (.ref a) env) (GL K.C) (seqObj "list" [] 0) [] (newList []) [] := ⟨rfl, rfl, h, mk_L, fun u0 u0 u0 => turn_l1⟩
theorem comp_d {ρ : Rho} (h : compB K.fd scope own = true) : Comp K ρ (.DictComp kx vx [⟨target, iter, ifs, 0⟩] scope pos) target iter ifs scope own (fun a env => emitD kx vx a env) (GD K.C) { cls := .type "dict", data := .dict #[] } [] newDict [] := ⟨rfl, rfl, h, mk_D, fun u0 u0 u0 => turn_d1⟩
theorem comp_ll {ρ : Rho} {t2 i2 : Expr} {f2 : List Expr} (h : compB K.fd scope own = true) : Comp K ρ (.ListComp elt [⟨target, iter, ifs, 0⟩, ⟨t2, i2, f2, 0⟩] scope pos) target iter ifs scope own (fun a env => nestOf (.ListComp elt [⟨target, iter, ifs, 0⟩, ⟨t2, i2, f2, 0⟩] scope pos) i2 1 (.ref a) env) (GL K.C) (seqObj "list" [] 0) [] (newList []) [⟨t2, i2, f2, 0⟩] := ⟨rfl, rfl, h, mk_L, fun u0 u0 u0 => turn_l2⟩
theorem TP_lc {rest : List Comprehension} {l : List D} (c : Comp K ρ (.ListComp elt (⟨target, iter, ifs, 0⟩ :: rest) scope pos) target iter ifs scope own act (GL K.C) (seqObj "list" [] 0) [] (newList []) rest) (hi : TI K ρ iter target σ ds σ₁)
    (hr : CRuns K ρ target ifs scope own act (GL K.C) ds σ₁ [] σ' l) (hs : ∀ x, foldedSetIterable iter K.env x = pure x := by exact fun u0 => rfl) : TP K ρ (eval (.ListComp elt (⟨target, iter, ifs, 0⟩ :: rest) scope pos) K.env) σ (fun a => GL K.C a l) σ' := fun u0 u0 p => by
  rw [eval_ListComp]
  exact comp_all c hs hi hr p fun v L s' h => h.go gat_L.go
theorem TP_dc {rest : List Comprehension} {l : List (Str × D)} (c : Comp K ρ (.DictComp kx vx (⟨target, iter, ifs, 0⟩ :: rest) scope pos) target iter ifs scope own act (GD K.C) { cls := .type "dict", data := .dict #[] } [] newDict rest) (hi : TI K ρ iter target σ ds σ₁)
    (hr : CRuns K ρ target ifs scope own act (GD K.C) ds σ₁ [] σ' l) (hs : ∀ x, foldedSetIterable iter K.env x = pure x := by exact fun u0 => rfl) : TP K ρ (eval (.DictComp kx vx (⟨target, iter, ifs, 0⟩ :: rest) scope pos) K.env) σ (fun a => GD K.C a l) σ' := fun u0 u0 p => by
  rw [arm_eval_DictComp]
  exact comp_all c hs hi hr p fun v L s' h => h.go gat_D.go
noncomputable def swB (scope inner : Scope) (y : Str) (a b : Nat) : Bool := scope.kind == .function && scope.names.lookup y == some .local && a == b && !(inner.names.any fun (n, k) => n == y && (k == .local || k == .cell))
theorem swaps {y : Str} {e : Expr} {py : Pos} {m n : Nat} {b : Bool} (o : KOk K) (he : swapsWith e (some (.Name y py)) n K.env = pure (K.env.blockKind == .function && K.env.kindOf y == some .local && py.line == m && !(scope.names.any fun (n, k) => n == y && (k == .local || k == .cell)))) (h : swB K.fd.scope scope y py.line m = b) : swapsWith e (some (.Name y py)) n K.env = pure b := by
  have hb : K.env.blockKind = .function := by unfold Env.blockKind; rw [o.kind]; rfl
  rw [he, hb, o.kd, ← h]
  unfold swB
  rw [← o.scope, o.kind]
theorem EndC.use {L : Addr} {v : Value} {s : Shared} {E : Value → Shared → Prop} {Gf : Addr → W → Prop} {y : Str} {py : Pos} {i : Nat} {d : D} (p : Ok K ρ σ₁ w) (hy : K.ns[i]? = some y) (hm : K.may ρ i = true) (cnv : ∀ a w', Step NoF w w' → Inv K.C σ w' → NoT w a → Gf a w' → Cnv K.C w w' a σ₂ d) : EndC K w σ Gf L v s →
    compPost K.C.M K.A E (some (assign (.Name y py) K.env)) (fun u0 s' => OutS K w σ₂ .next (ρ.set i (some d)) .next s') v L (.ok .next) s
  | ⟨w', a, x, I, e, na, nl, hne, q, o, es, ep, z, dd, sk⟩ => by
    obtain ⟨w₂, e2, x2, I2, r2, k2⟩ := cnv a w' x I na q
    subst e
    show wpAny _ _ (assign (.Name y py) K.env (.ref a)) _ _ w'.s
    rw [← e2]
    refine wpAny_assign_Name (wpAny_mono (store_ok p.o I2 (p.V.stepN p.o x2) hy hm r2) (fun u0 u0 o3 => ?_) fun u0 u0 e => e)
    obtain ⟨w3, x3, I3, V3⟩ := o3
    have hL : ¬ K.own1 L := fun q => by obtain ⟨u1, y⟩ := p.V.ids K.L p.o.id; exact nl _ (q ▸ y.tag)
    have z3 := x3.mu L hL _ _ (k2 L (Ne.symm hne) _ _ z)
    refine ⟨nsFind es, ⟨o, es, ep, z3.is, dd, sk, fun u0 => rfl⟩, fun h hs => ?_⟩
    have hk := fin_letgo z3 hs
    have x4 : Step (· = L) w3 (w3.fin [L] h w3.s.toks) := ⟨⟨fin_keep (t := .fz) hk (fun u0 u0 e => nomatch e), fun u0 u0 e => e⟩, fun b f => fin_keep hk fun j m e => f (by cases e; exact List.mem_singleton.mp m), h, w3.s.toks, rfl⟩
    exact ⟨w3.fin [L] h w3.s.toks, ((x2.ofN.trans x3).weaken fun u0 q => q).fin hk (fun b q => .inl q) fun j m => List.mem_singleton.mp m ▸ nl, I3.fin hk, V3.step p.o x4 fun j m q => by obtain ⟨u1, y⟩ := p.V.ids j m; exact nl _ (q ▸ y.tag), .next⟩
theorem TS_lc {rest : List Comprehension} {l : List D} {y : Str} {py spos : Pos} {i : Nat} {d : D} (c : Comp K ρ (.ListComp elt (⟨target, iter, ifs, 0⟩ :: rest) scope pos) target iter ifs scope own act (GL K.C) (seqObj "list" [] 0) [] (newList []) rest) (hi : TI K ρ iter target σ ds σ₁)
    (hr : CRuns K ρ target ifs scope own act (GL K.C) ds σ₁ [] σ' l) (hw : swB K.fd.scope scope y py.line pos.line = true) (hy : K.ns[i]? = some y) (hm : K.may ρ i = true) (cnv : ∀ a w w', Step NoF w w' → Inv K.C σ' w' → NoT w a → GL K.C a l w' → Cnv K.C w w' a σ₂ d) (hs : ∀ x, foldedSetIterable iter K.env x = pure x := by exact fun u0 => rfl) :
    TS K ρ (exec (.Assign [.Name y py] (.ListComp elt (⟨target, iter, ifs, 0⟩ :: rest) scope pos) spos) K.env) σ .next (ρ.set i (some d)) σ₂ := fun w E p => by
  rw [exec_Assign_Name_used _ _ _ _ (swaps p.o (by rfl) hw)]
  refine wpAny_bind (wpAny_standAt (wpAny_bind ?_))
  show wpAny _ _ (do let _ ← comprehension (.ListComp elt (⟨target, iter, ifs, 0⟩ :: rest) scope pos) scope K.env _ (newList []) false (eval iter K.env) (some (assign (.Name y py) K.env))) _ _ w.s
  exact wpAny_bind (wpAny_mono (comp_all (use := some (assign (.Name y py) K.env)) (Q := fun u0 s' => OutS K w σ₂ .next (ρ.set i (some d)) .next s') c hs hi hr p fun v L s' h => h.use p hy hm fun a w' => cnv a w w') (fun u0 s' hq => wpAny_pure (wpAny_pure hq)) fun u0 u0 e => e)
theorem TS_dc {rest : List Comprehension} {l : List (Str × D)} {y : Str} {py spos : Pos} {i : Nat} {d : D} (c : Comp K ρ (.DictComp kx vx (⟨target, iter, ifs, 0⟩ :: rest) scope pos) target iter ifs scope own act (GD K.C) { cls := .type "dict", data := .dict #[] } [] newDict rest) (hi : TI K ρ iter target σ ds σ₁)
    (hr : CRuns K ρ target ifs scope own act (GD K.C) ds σ₁ [] σ' l) (hw : swB K.fd.scope scope y py.line pos.line = true) (hy : K.ns[i]? = some y) (hm : K.may ρ i = true) (cnv : ∀ a w w', Step NoF w w' → Inv K.C σ' w' → NoT w a → GD K.C a l w' → Cnv K.C w w' a σ₂ d) (hs : ∀ x, foldedSetIterable iter K.env x = pure x := by exact fun u0 => rfl) :
    TS K ρ (exec (.Assign [.Name y py] (.DictComp kx vx (⟨target, iter, ifs, 0⟩ :: rest) scope pos) spos) K.env) σ .next (ρ.set i (some d)) σ₂ := fun w E p => by
  rw [exec_Assign_Name_used _ _ _ _ (swaps p.o (by rfl) hw)]
  refine wpAny_bind (wpAny_standAt (wpAny_bind ?_))
  show wpAny _ _ (do let _ ← comprehension (.DictComp kx vx (⟨target, iter, ifs, 0⟩ :: rest) scope pos) scope K.env _ newDict false (eval iter K.env) (some (assign (.Name y py) K.env))) _ _ w.s
  exact wpAny_bind (wpAny_mono (comp_all (use := some (assign (.Name y py) K.env)) (Q := fun u0 s' => OutS K w σ₂ .next (ρ.set i (some d)) .next s') c hs hi hr p fun v L s' h => h.use p hy hm fun a w' => cnv a w w') (fun u0 s' hq => wpAny_pure (wpAny_pure hq)) fun u0 u0 e => e)
end
end Mine
end
section
open PySem PySem.W PyProof.Rows
namespace Mine
section
variable {K : Ctx} {ρ ρ' : Rho} {σ σ₁ σ' : St} {ι : Type} {N : ι → St → Option D → ι → St → Prop} {i : ι} {target iter : Expr} {body els : List Stmt} {pos : Pos} {n : Nat} {fl : Fl} {w w' : W} {d : D} {v : Value}
theorem TS_for (hi : TIn K ρ iter target σ N i σ₁) (r : Run K N target body els n i ρ σ₁ fl ρ' σ') (hs : ∀ x, foldedSetIterable iter K.env x = pure x := by exact fun u0 => rfl) : TS K ρ (exec (.For target iter body els pos) K.env) σ fl ρ' σ' := fun u0 u0 p =>
  wpAny_For (wpAny_mono (hi p) (fun x s1 h1 => wpAny_mono h1 (fun it s2 h2 => by
    obtain ⟨w2, k, J, x2, I2, X, j, hn, hl⟩ := h2
    exact codeAny_mono (run_loop X.toItrL p hn x2 I2 j r) (by rintro r s' ⟨f, rfl, o⟩; exact o)) fun u0 u0 e => e) fun u0 u0 e => e) hs
inductive Nv (m : Nat) : Nat → St → Option D → Nat → St → Prop
  | some {i : Nat} {σ : St} {l : List D} {d : D} (h : σ[m]? = some (.lst l)) (e : l[i]? = some d) : Nv m i σ (some d) (i + 1) σ
  | none {i : Nat} {σ : St} {l : List D} (h : σ[m]? = some (.lst l)) (e : l[i]? = none) : Nv m i σ none i σ
inductive JV (m : Nat) (k : Addr) (i : Nat) (w : W) : Prop
  | mk (a : Addr) (o : Obj) (z : At w (.mu k) k o) (c : o.cls = .type "list_iterator") (d : o.data = .fields #[.ref a, .int i 0]) (e : w.mn[m]? = some a) : JV m k i w
theorem itr_live {C : Cx} {A : Around} {k : Addr} {m : Nat} (hA : A.handled = none) : Itr C A target (.ref k) k (JV m k) (Nv m) where
  stable := fun ⟨a, o, z, c, d, e⟩ x nf => ⟨a, o, x.mu k nf _ _ z, c, d, x.main _ _ e⟩
  item := by
    rintro i σ w d i' σ' E I ⟨a, o, z, c, dd, e⟩ nv
    cases nv with
    | some h e' =>
      obtain ⟨vs, q, z2, r⟩ := I.ok _ _ _ h e
      obtain ⟨v, h3, h4⟩ := r.get e'
      refine wpAny_pyNext_list_item ⟨o, z.is, c, dd⟩ (items := vs.toArray) ⟨_, z2.is, rfl, q, rfl⟩ (List.getElem?_toArray.trans h3) fun h' hit hs => ⟨v, rfl, ?_⟩
      obtain ⟨o', e1, c1, d1⟩ := hit
      have hk : ∀ b o, w.tag b ≠ .mu k → w.s.heap.get? b = some o → h'.get? b = some o := fun b o n e => (hs.2 b fun q => n (q ▸ z.tag)).trans e
      have x : Step (· = k) w (w.put [] .fz h' w.s.toks []) := .priv hk
      refine go_of (T := "list_iterator") e1 c1 (by decide) ⟨_, x, I.priv hk fun b q ⟨o, y⟩ => ?_, ⟨a, o', ⟨z.tag, e1⟩, c1, d1, x.main _ _ e⟩, x.rep h4⟩
      by_cases n : b = k
      · exact ⟨o', n ▸ e1⟩
      · exact ⟨o, (hs.2 b n).trans y⟩
  done := by
    rintro i σ w i' σ' E I ⟨a, o, z, c, dd, e⟩ nv
    cases nv with
    | none h e' =>
      obtain ⟨vs, q, z2, r⟩ := I.ok _ _ _ h e
      refine wpAny_pyNext_list_end hA ⟨o, z.is, c, dd⟩ (items := vs.toArray) ⟨_, z2.is, rfl, q, rfl⟩ (List.getElem?_toArray.trans (List.getElem?_eq_none_iff.mpr (by rw [r.length]; exact List.getElem?_eq_none_iff.mp e'))) fun h' he => ⟨rfl, w, h', w.s.toks, .refl _ _, I, fun b o n e => he b o (fun q => n k (.head _) (q ▸ z.tag)) e⟩
  self := fun ⟨a, o, z, c, dd, e⟩ q => wpAny_pyIter_slot (T := "list_iterator") ⟨_, z.is, c⟩ slot_listiter_iter (wpAny_call_entry slot_listiter_iter ⟨_, z.is, c⟩ entry_listiter_iter (wpAny_pure ⟨_, rfl, _, _, ⟨_, z.is, c⟩, slot_listiter_next.lookup, q⟩) (args_listiter_iter _))
theorem TI_live {m : Nat} {l : List D} (h : TE K ρ (eval iter K.env) σ (.loc m) σ₁) (hl : σ₁[m]? = some (.lst l)) : TIn K ρ iter target σ (Nv m) 0 σ₁ := fun u0 u0 p =>
  h.go p fun v w1 n1 => by
    obtain ⟨a, e, e'⟩ := n1.r
    subst e'
    obtain ⟨vs, q, z, r⟩ := n1.p.I.ok _ _ _ hl e
    refine wpAny_pyIter_list (items := vs.toArray) ⟨_, z.is, rfl, q, rfl⟩ ?_
    obtain ⟨x2, I2⟩ := new_priv (o := { cls := .type "list_iterator", data := .fields #[.ref a, .int 0 0] }) (t := w1.s.toks) n1.p.I rfl
    have zk : At (w1.put [w1.s.heap.objs.size] (.mu w1.s.heap.objs.size) (w1.s.heap.push { cls := .type "list_iterator", data := .fields #[.ref a, .int 0 0] }) w1.s.toks []) (.mu w1.s.heap.objs.size) w1.s.heap.objs.size _ := ⟨if_pos (.head _), Heap.get?_push_size _ rfl⟩
    exact ⟨_, _, _, n1.x.trans x2, I2, itr_live p.o.room.handled, ⟨a, _, zk, rfl, rfl, x2.main _ _ e⟩, (NoT.of n1.p.I (Heap.fresh0 _)).back p.I n1.x, ⟨_, zk⟩⟩
noncomputable def W.rest (w : W) : W := ⟨w.s, fun b => match w.tag b with | .ob _ => .fz | t => t, w.mn⟩
noncomputable def view (σ : St) : D → D
  | .loc n => match σ[n]? with
    | some (.lst l) => .lst l
    | some (.ds l) => .ds l
    | some (.di l) => .di l
    | _ => .loc n
  | d => d
noncomputable def viewR (σ : St) (ρ : Rho) : Rho := ρ.map (Option.map (view σ))
theorem rest_tag {b : Addr} {t : Tag} (h : w.tag b = t) (ht : ∀ n, t ≠ .ob n) : w.rest.tag b = t := by
  show (match w.tag b with | .ob _ => Tag.fz | t => t) = t
  rw [h]
  cases t with
  | ob n => exact absurd rfl (ht n)
  | _ => rfl
theorem rest_ob {b : Addr} {n : Nat} (h : w.tag b = .ob n) : w.rest.tag b = .fz := by
  show (match w.tag b with | .ob _ => Tag.fz | t => t) = .fz
  rw [h]
theorem rest_mu {b k : Addr} (h : w.rest.tag b = .mu k) : w.tag b = .mu k := by
  have h : (match w.tag b with | .ob _ => Tag.fz | t => t) = .mu k := h
  cases q : w.tag b with
  | ob n => rw [q] at h; cases h
  | _ => rw [q] at h; exact h
theorem Step.rested (F : Addr → Prop) (w : W) : Step F w w.rest :=
  ⟨⟨fun b o z => ⟨rest_tag z.tag (fun u0 q => nomatch q), z.is⟩, fun u0 u0 e => e⟩, fun k u0 b o z => ⟨rest_tag z.tag (fun u0 q => nomatch q), z.is⟩, w.s.heap, w.s.toks, rfl⟩
theorem Inv.rested {C : Cx} (I : Inv C σ w) : Inv C (σ.map fun u0 => .dead) w.rest where
  base b o e := (Step.rested NoF w).keep b o (I.base b o e)
  dead b e := rest_tag (I.dead b e) fun u0 q => nomatch q
  own b k e := let ⟨o, z⟩ := I.own b k (rest_mu e); ⟨o, (Step.rested NoF w).mu k id _ _ z⟩
  obj b n e := by
    have e : (match w.tag b with | .ob _ => Tag.fz | t => t) = .ob n := e
    cases q : w.tag b with
    | ob m => rw [q] at e; cases e
    | _ => rw [q] at e; cases e
  len := by rw [List.length_map]; exact I.len
  ok n c a h1 _ := by
    rw [List.getElem?_map] at h1
    obtain ⟨u1, u2, rfl⟩ := Option.map_eq_some_iff.mp h1
    trivial
theorem rep_rested {C : Cx} (I : Inv C σ w) (r : Rep C w d v) : Rep C w.rest (view σ d) v := by
  have M := (Step.rested NoF w).toMono
  have at_ : ∀ {n a o}, At w (.ob n) a o → At w.rest .fz a o := fun z => ⟨rest_ob z.tag, z.is⟩
  cases d with
  | loc n =>
    obtain ⟨a, e, rfl⟩ := r
    have r0 : Rep C w.rest (.loc n) (.ref a) := ⟨a, e, rfl⟩
    show Rep C w.rest (match σ[n]? with | some (.lst l) => .lst l | some (.ds l) => .ds l | some (.di l) => .di l | _ => .loc n) _
    cases q : σ[n]? with
    | none => exact r0
    | some c => cases c with
      | lst l => obtain ⟨vs, k, z, r⟩ := I.ok _ _ _ q e; exact ⟨a, vs, k, at_ z, RepL.mono M _ _ r⟩
      | ds l => obtain ⟨o, vs, k, z, y, r⟩ := I.ok _ _ _ q e; exact ⟨a, o, vs, k, at_ z, y, RepS.mono M _ _ r⟩
      | di l => obtain ⟨o, vs, k, z, y, r⟩ := I.ok _ _ _ q e; exact ⟨a, o, vs, k, at_ z, y, RepI.mono M _ _ r⟩
      | _ => exact r0
  | _ => exact Rep.mono M _ _ r
theorem viewR_get {i : Nat} {d : D} (h : (viewR σ ρ)[i]? = some (some d)) : ∃ d₀, ρ[i]? = some (some d₀) ∧ d = view σ d₀ := by
  unfold viewR at h
  rw [List.getElem?_map] at h
  obtain ⟨o, e, q⟩ := Option.map_eq_some_iff.mp h
  obtain ⟨d₀, e', q⟩ := Option.map_eq_some_iff.mp q
  exact ⟨d₀, e' ▸ e, q.symm⟩
theorem viewR_tag (i : Nat) : K.tagOf (viewR σ ρ) i = K.tagOf ρ i := by
  unfold Ctx.tagOf viewR
  rw [List.getElem?_map]
  cases ρ[i]? with
  | none => rfl
  | some o => cases o <;> rfl
theorem Ok.rested (p : Ok K ρ σ w) : Ok K (viewR σ ρ) (σ.map fun u0 => .dead) w.rest where
  o := p.o
  I := p.I.rested
  V := by
    have X := Step.rested NoF w
    obtain ⟨⟨o, es, ep, z, e, sk, val⟩, cel, ids⟩ := p.V
    refine ⟨⟨o, es, ep, X.mu _ id _ _ z, e, sk, fun i x d a b c => ?_⟩, fun x c e => ?_, fun j m => let ⟨o, z⟩ := ids j m; ⟨o, X.mu _ id _ _ z⟩⟩
    · obtain ⟨d₀, c', rfl⟩ := viewR_get c
      obtain ⟨v, p1, p2⟩ := val i x d₀ a b c'
      exact ⟨v, p1, rep_rested p.I p2⟩
    · obtain ⟨o, ov, t, z, e1, ne, ht, val, own⟩ := cel x c e
      refine ⟨o, ov, t, ht.elim (fun q => by subst q; exact X.keep _ _ z) fun ⟨k, m, q⟩ => by subst q; exact X.mu k id _ _ z, e1, ne, ht, fun i d a b c => ?_, fun i a b c => (own i a b c).trans (viewR_tag i).symm⟩
      obtain ⟨d₀, c', rfl⟩ := viewR_get c
      obtain ⟨v, p1, p2⟩ := val i d₀ a b c'
      exact ⟨v, p1, rep_rested p.I p2⟩
noncomputable def W.wake (w w₂ : W) : W := ⟨w₂.s, fun b => match w.tag b with | .ob n => .ob n | _ => match w₂.tag b with | .ob _ => .fz | t => t, w.mn⟩
theorem wake_ob {w₂ : W} {b : Addr} {n : Nat} (h : w.tag b = .ob n) : (w.wake w₂).tag b = .ob n := by
  show (match w.tag b with | .ob n => Tag.ob n | _ => _) = _
  rw [h]
theorem wake_tag {w₂ : W} {b : Addr} (h : ∀ n, w.tag b ≠ .ob n) : (w.wake w₂).tag b = w₂.rest.tag b := by
  show (match w.tag b with | .ob n => Tag.ob n | _ => match w₂.tag b with | .ob _ => Tag.fz | t => t) = _
  cases q : w.tag b with
  | ob n => exact absurd q (h n)
  | _ => rfl
theorem Step.wake {w₂ : W} (x : Step NoF w.rest w₂) : Step NoF w (w.wake w₂) where
  keep b o z := have y := x.keep b o ⟨rest_tag z.tag (fun u0 q => nomatch q), z.is⟩; ⟨(wake_tag fun n q => nomatch q.symm.trans z.tag).trans (rest_tag y.tag (fun u0 q => nomatch q)), y.is⟩
  main _ _ e := e
  mu k f b o z := have y := x.mu k f b o ⟨rest_tag z.tag (fun u0 q => nomatch q), z.is⟩; ⟨(wake_tag fun n q => nomatch q.symm.trans z.tag).trans (rest_tag y.tag (fun u0 q => nomatch q)), y.is⟩
  rest := x.rest
theorem Inv.wake {C : Cx} {σ₂ : St} {w₂ : W} (I : Inv C σ w) (x : Step NoF w.rest w₂) (I2 : Inv C σ₂ w₂) : Inv C σ (w.wake w₂) where
  base b o e := x.wake.keep b o (I.base b o e)
  dead b e := by
    have n : ∀ n, w.tag b ≠ .ob n := fun n q => by
      by_cases y : Alive w b
      · obtain ⟨o, y⟩ := y; exact nomatch (x.keep b o ⟨rest_ob q, y⟩).is.symm.trans e
      · exact nomatch (I.dead b (dead_of y)).symm.trans q
    exact (wake_tag n).trans (rest_tag (I2.dead b e) fun u0 q => nomatch q)
  own b k e := by
    by_cases n : ∃ n, w.tag b = .ob n
    · obtain ⟨n, q⟩ := n; exact nomatch (wake_ob q).symm.trans e
    · obtain ⟨o, z⟩ := I2.own b k (rest_mu ((wake_tag fun m q => n ⟨m, q⟩).symm.trans e))
      refine ⟨o, (wake_tag fun m q => ?_).trans (rest_tag z.tag (fun u0 q => nomatch q)), z.is⟩
      by_cases y : Alive w k
      · obtain ⟨o, y⟩ := y; exact nomatch (x.keep k o ⟨rest_ob q, y⟩).tag.symm.trans z.tag
      · exact nomatch (I.dead k (dead_of y)).symm.trans q
  obj b n e := by
    by_cases m : ∃ m, w.tag b = .ob m
    · obtain ⟨m, q⟩ := m; cases (wake_ob q).symm.trans e; exact I.obj b _ q
    · have e : (match w₂.tag b with | .ob _ => Tag.fz | t => t) = .ob n := (wake_tag fun n q => m ⟨n, q⟩).symm.trans e
      cases q : w₂.tag b with
      | ob m => rw [q] at e; cases e
      | _ => rw [q] at e; cases e
  len := I.len
  ok n c a e1 e2 := (I.ok n c a e1 e2).mono x.wake.toMono fun b o z => ⟨wake_ob z.tag, (x.keep b o ⟨rest_ob z.tag, z.is⟩).is⟩
theorem TB_rest {t : Sem Bool} {q : Bool} {σ₂ : St} (h : TB K (viewR σ ρ) t (σ.map fun u0 => .dead) q σ₂) : TB K ρ t σ q σ := fun w E p =>
  wpAny_mono (h (w := w.rest) p.rested) (fun u0 u0 ⟨w₂, x, I⟩ => ⟨w.wake w₂, x.wake, p.I.wake x I⟩) fun u0 u0 e => e
noncomputable def scal : D → Bool
  | .none => true
  | .bool _ => true
  | .int _ => true
  | .str _ => true
  | _ => false
theorem TE_rest {t : Sem Value} {σ₂ : St} (h : TE K (viewR σ ρ) t (σ.map fun u0 => .dead) d σ₂) (hd : scal d = true) : TE K ρ t σ d σ := fun w E p =>
  wpAny_mono (h (w := w.rest) p.rested) (fun u0 u0 ⟨w₂, x, I, r⟩ => ⟨w.wake w₂, x.wake, p.I.wake x I, by cases d <;> first | exact r | cases hd⟩) fun u0 u0 e => e
end
end Mine
end
section
open PySem PySem.W PyProof.Rows
namespace Mine
inductive Upd (C : Cx) (σ : St) (w : W) (n : Nat) (co : AO) : Shared → Prop
  | mk (w' : W) (x : Step NoF w w') (I : Inv C (σ.set n co) w') : Upd C σ w n co w'.s
section
variable {C : Cx} {σ σ' : St} {w w' : W} {n : Nat} {co : AO} {a : Addr} {o o' : Obj} {h : Heap} {t : Tok}
theorem ob_upd (I : Inv C σ w) (z : At w (.ob n) a o) (e : h.get? a = some o') (hs : ∀ b o, b ≠ a → w.s.heap.get? b = some o → h.get? b = some o) (ok : Mono w (w.put [] .fz h t []) → ∀ a', w.mn[n]? = some a' → AOk C (w.put [] .fz h t []) n co a') : Upd C σ w n co { w.s with heap := h, toks := t } := by
  have hk : ∀ b o, w.tag b ≠ .ob n → w.s.heap.get? b = some o → h.get? b = some o := fun b o m e => hs b o (fun q => m (q ▸ z.tag)) e
  have c : Chg (· = .ob n) w (w.put [] .fz h t []) := .put fun t m b o z => ⟨List.not_mem_nil, hk b o (fun q => m (z.tag.symm.trans q)) z.is⟩
  have x : Step NoF w (w.put [] .fz h t []) := c.step (fun q => nomatch q) fun u0 q => nomatch q
  exact ⟨_, x, I.set c (fun u0 m => nomatch m) (fun b ⟨o, e'⟩ => by
    by_cases q : b = a
    · exact ⟨o', q ▸ e⟩
    · exact ⟨o, hs b o q e'⟩) (fun u0 m => nomatch m) (ok x.toMono)⟩
theorem Upd.out {d : D} {v : Value} (r : Rep C w d v) {s : Shared} : Upd C σ w n co s → Out C w (σ.set n co) d v s
  | ⟨w₂, x, I⟩ => ⟨w₂, x, I, x.rep r⟩
theorem lst_upd {l' : List D} {vs' : List Value} {k' : Nat} (I : Inv C σ w) (z : At w (.ob n) a o) (em : w.mn[n]? = some a) (hs : Heap.SameBut a w.s.heap h) (e : h.get? a = some (seqObj "list" vs' k')) (r : RepL C w l' vs') : Upd C σ w n (.lst l') { w.s with heap := h, toks := t } :=
  ob_upd I z e (fun b o q e => (hs.2 b q).trans e) fun M a' q => by cases em.symm.trans q; exact ⟨vs', k', ⟨z.tag, e⟩, RepL.mono M _ _ r⟩
theorem ds_upd {l' : List (Str × D)} {kvs' : List (Str × Value)} (I : Inv C σ w) (z : At w (.ob n) a o) (em : w.mn[n]? = some a) (ne : a ≠ sysModules) (hs : Heap.SameBut a w.s.heap h) (e : h.DictOf (strKind C.prog C.w) a kvs') (r : RepS C w l' kvs') : Upd C σ w n (.ds l') { w.s with heap := h, toks := t } := by
  obtain ⟨o', e', d⟩ := Heap.dictOf_iff.mp e
  exact ob_upd I z e' (fun b o q e => (hs.2 b q).trans e) fun M a' q => by cases em.symm.trans q; exact ⟨o', kvs', ne, ⟨z.tag, e'⟩, d, RepS.mono M _ _ r⟩
theorem di_upd {l' : List (Int × D)} {kvs' : List (Int × Value)} (I : Inv C σ w) (z : At w (.ob n) a o) (em : w.mn[n]? = some a) (ne : a ≠ sysModules) (hs : Heap.SameBut a w.s.heap h) (e : h.DictOf (intKind C.prog C.w) a kvs') (r : RepI C w l' kvs') : Upd C σ w n (.di l') { w.s with heap := h, toks := t } := by
  obtain ⟨o', e', d⟩ := Heap.dictOf_iff.mp e
  exact ob_upd I z e' (fun b o q e => (hs.2 b q).trans e) fun M a' q => by cases em.symm.trans q; exact ⟨o', kvs', ne, ⟨z.tag, e'⟩, d, RepI.mono M _ _ r⟩
inductive IsOb (w : W) (n : Nat) (P : Addr → Prop) : Value → Prop
  | mk (a : Addr) (e : w.mn[n]? = some a) (p : P a) : IsOb w n P (.ref a)
theorem ob_at {v : Value} (I : Inv C σ w) (hn : σ[n]? = some co) (r : Rep C w (.loc n) v) : IsOb w n (AOk C w n co) v := let ⟨a, e, q⟩ := r; q ▸ ⟨a, e, I.ok _ _ _ hn e⟩
noncomputable def IBinOk (op : Operator) (a b d : D) : Prop := ∀ ⦃C : Cx⦄ ⦃A : Around⦄ ⦃σ : St⦄ ⦃w : W⦄ ⦃va vb : Value⦄ ⦃E : Value → Shared → Prop⦄, Inv C σ w → Rep C w a va → Rep C w b vb → wpAny C.M A (inplaceOp op va vb) (Out C w σ d) E w.s
section
variable {i j : Int} {x y : Str}
theorem ibin_add : IBinOk .Add (.int i) (.int j) (.int (i + j)) := fun u0 u0 u0 u0 u0 u0 u0 I ⟨_, e⟩ ⟨_, e'⟩ => by subst e e'; exact PyProof.Rows.iadd_int (out_int I _ _ _)
theorem ibin_shl (h : i.natAbs < 2 ^ 63) (h0 : 0 ≤ j) (h1 : j ≤ 1000) : IBinOk .LShift (.int i) (.int j) (.int (i * 2 ^ j.toNat)) := fun u0 u0 u0 u0 u0 u0 u0 I ⟨_, e⟩ ⟨_, e'⟩ => by
  subst e e'
  have := intBits_le_64 (k := i) (by omega) (by omega)
  exact PyProof.Rows.ilshift_int h0 (by omega) (out_int I _ _ _)
theorem ibin_or : IBinOk .BitOr (.int i) (.int j) (.int (Builtin.bitOr i j)) := fun u0 u0 u0 u0 u0 u0 u0 I ⟨_, e⟩ ⟨_, e'⟩ => by subst e e'; exact PyProof.Rows.ior_int (out_int I _ _ _)
theorem ibin_xor : IBinOk .BitXor (.int i) (.int j) (.int (Builtin.bitXor i j)) := fun u0 u0 u0 u0 u0 u0 u0 I ⟨_, e⟩ ⟨_, e'⟩ => by subst e e'; exact PyProof.Rows.ixor_int (out_int I _ _ _)
theorem ibin_adds (h : x.length + y.length ≤ 16777216) : IBinOk .Add (.str x) (.str y) (.str (x ++ y)) := fun u0 u0 u0 u0 u0 u0 u0 I ⟨_, e⟩ ⟨_, e'⟩ => by subst e e'; exact PyProof.Rows.iadd_str (fun u0 u0 => out_str I _ _ _) (by rw [sizeLine_is]; exact h)
end
theorem list_iadd_seq : isSeqSlot (some (.builtin "list.__iadd__")) = true := by decide +kernel
theorem iadd_list {prog : Program} {wd : World} {A : Around} {E : Value → Shared → Prop} {s : Shared} {l b : Addr} {items items2 : Array Value} {n n2 : Nat} {Q : Value → Shared → Prop} (hl : PySem.IsL s.heap l items n) (hb : PySem.IsL s.heap b items2 n2) (hsz : items.size + items2.size ≤ 1000000)
    (h : Q (.ref l) { s with heap := s.heap.update l (Obj.mapSeq fun x => x ++ items2) }) : wpAny (model prog wd) A (inplaceOp .Add (.ref l) (.ref b)) Q E s := by
  unfold inplaceOp
  refine wpAny_holding ?_
  have lk : typeLookup (.type "list") (dunderI "add") = pure (some (.builtin "list.__iadd__")) := PySem.F.slot_list_iadd.lookup
  have hfi : fillsInplaceSlot (.type "list") "add" (Operator.Add == .Add) = pure false := by
    unfold fillsInplaceSlot
    show (typeLookup (.type "list") (dunderI "add") >>= fun fi => pure (fi.isSome && !isSeqSlot fi)) = pure false
    rw [lk]; simp only [pure_bind, list_iadd_seq]; rfl
  have ta : s.TypeIs (.ref l) "list" := ⟨_, hl, rfl⟩
  have tb : s.TypeIs (.ref b) "list" := ⟨_, hb, rfl⟩
  refine wpAny_bind (wpAny_typeOf ta (wpAny_bind (wpAny_of_eq hfi ?_)))
  show wpAny (model prog wd) A (if false = true then _ else _) Q E s
  rw [if_neg Bool.false_ne_true]
  refine wpAny_bind (wpAny_binaryOp1_none (nm := "add") ta tb noFill_list_add ?_)
  refine wpAny_bind (wpAny_of_eq (PySem.seqSlot_of lk list_iadd_seq) ?_)
  refine wpAny_bind (wpAny_rule (call_meets PySem.F.slot_list_iadd ta PySem.F.entry_list_iadd (PySem.F.args_list_iadd_2 _ _) (AutoSeq1.list___iadd___list_list_0 l items n b items2 n2 ?_ (by rw [sizeLine_is]; omega) (by rw [sizeLine_is]; omega)) ⟨hl, hb, h⟩))
  have : Builtin.List.listTooLong (items.size + items2.size) = false := by
    unfold Builtin.List.listTooLong
    exact decide_eq_false (by rw [sizeLine_is]; omega)
  rw [this, Bool.and_false]; exact Bool.false_ne_true
end
section
variable {K : Ctx} {ρ : Rho} {σ σ₁ σ₂ σ₃ : St} {w w' : W} {a b d : D} {n i : Nat} {o e ie : Expr} {p pos : Pos} {x : Str} {op : Operator} {co : AO}
theorem Upd.stmt (q : Ok K ρ σ' w) (y : Step NoF w w') {s : Shared} : Upd K.C σ₁ w' n co s → OutS K w (σ₁.set n co) .next ρ .next s
  | ⟨w₂, z, I⟩ => ⟨w₂, (y.trans z).ofN, I, q.V.stepN q.o (y.trans z), .next⟩
theorem TS_seti {k : Str} {l : List (Str × D)} (he : TE K ρ (eval e K.env) σ d σ₁) (ho : TE K ρ (eval o K.env) σ₁ (.loc n) σ₂) (hi : TE K ρ (eval ie K.env) σ₂ (.str k) σ₃) (hn : σ₃[n]? = some (.ds l)) (hz : l.length ≤ 1000000) (hs : swapsWith e (some (.Subscript o ie p)) pos.line K.env = pure false := by rfl) :
    TS K ρ (exec (.Assign [.Subscript o ie p] e pos) K.env) σ .next ρ (σ₃.set n (.ds (kset l k d))) := fun u0 u0 q =>
  wpAny_Assign_Subscript (he.go q fun v w1 n1 => ho.go n1.p fun vo w2 n2 => hi.go n2.p fun vi w3 n3 => by
    obtain ⟨aa, em, ob, kvs, ne, z, dd, r⟩ := ob_at n3.p.I hn (n3.x.rep n2.r)
    obtain ⟨t, e'⟩ := n3.r
    subst e'
    exact wpAny_setItem_pairs (knd := strKind K.C.prog K.C.w) (k := k) (strKind_is _ _ _ _) (ds_mapOf z dd) (fun h' hd hs => (ds_upd n3.p.I z em ne hs hd (by rw [repS_K]; exact repK_stored (repS_K l ▸ r) (isDictOf_nodup dd) ((n2.x.trans n3.x).rep n1.r))).stmt q ((n1.x.trans n2.x).trans n3.x)) (by rw [sizeLine_is, repK_len (repS_K l ▸ r)]; exact Nat.le_trans hz (by decide))) hs
theorem TS_setI {k : Int} {l : List (Int × D)} (he : TE K ρ (eval e K.env) σ d σ₁) (ho : TE K ρ (eval o K.env) σ₁ (.loc n) σ₂) (hi : TE K ρ (eval ie K.env) σ₂ (.int k) σ₃) (hn : σ₃[n]? = some (.di l)) (hz : l.length ≤ 1000000) (hs : swapsWith e (some (.Subscript o ie p)) pos.line K.env = pure false := by rfl) :
    TS K ρ (exec (.Assign [.Subscript o ie p] e pos) K.env) σ .next ρ (σ₃.set n (.di (kset l k d))) := fun u0 u0 q =>
  wpAny_Assign_Subscript (he.go q fun v w1 n1 => ho.go n1.p fun vo w2 n2 => hi.go n2.p fun vi w3 n3 => by
    obtain ⟨aa, em, ob, kvs, ne, z, dd, r⟩ := ob_at n3.p.I hn (n3.x.rep n2.r)
    obtain ⟨t, e'⟩ := n3.r
    subst e'
    exact wpAny_setItem_pairs (knd := intKind K.C.prog K.C.w) (k := k) (intKind_is _ _ _ _) (di_mapOf z dd) (fun h' hd hs => (di_upd n3.p.I z em ne hs hd (by rw [repI_K]; exact repK_stored (repI_K l ▸ r) (isDictOf_nodup dd) ((n2.x.trans n3.x).rep n1.r))).stmt q ((n1.x.trans n2.x).trans n3.x)) (by rw [sizeLine_is, repK_len (repI_K l ▸ r)]; exact Nat.le_trans hz (by decide))) hs
theorem Fd.var_ok (o : KOk K) (h : K.fd.var i x = true) : K.ns[i]? = some x ∧ (K.env.kindOf x = some .local ∨ K.Cl x) ∧ (x == ("__classdict__" : Str)) = false := by
  unfold Fd.var at h
  rw [Bool.and_eq_true, Bool.and_eq_true, Bool.and_eq_true, Bool.or_eq_true, Bool.or_eq_true, Bool.not_eq_true', Bool.not_eq_true', beq_iff_eq, beq_iff_eq, beq_iff_eq, beq_iff_eq, ← o.kd, or_assoc] at h
  exact ⟨h.1.1.1, h.1.1.2, h.1.2⟩
theorem TS_aug (hx : K.fd.var i x = true) (hr : ρ[i]? = some (some a)) (he : TE K ρ (eval e K.env) σ b σ₁) (h : IBinOk op a b d) (hm : K.may ρ i = true) : TS K ρ (exec (.AugAssign (.Name x p) op e pos) K.env) σ .next (ρ.set i (some d)) σ₁ := fun u0 u0 q =>
  have hv := Fd.var_ok q.o hx
  wpAny_AugAssign_Name (load_ok q.o q.V hv.1 hv.2.1 hv.2.2 hr fun va ra => he.go q fun vb w1 n1 => wpAny_mono (h n1.p.I (n1.x.rep ra) n1.r) (fun v u0 ⟨w2, x2, I2, r2⟩ =>
    wpAny_mono (store_ok n1.p.o I2 (n1.p.V.stepN n1.p.o x2) hv.1 hm r2) (fun u0 u0 o => o.next (n1.x.trans x2)) fun u0 u0 e => e) fun u0 u0 e => e)
theorem isL_update {h : Heap} {aa : Addr} {vs ws : List Value} {kk : Nat} {f : Array Value → Array Value} (e : h.get? aa = some (seqObj "list" vs kk)) (hf : f vs.toArray = ws.toArray) : ∃ k', (h.update aa (Obj.mapSeq f)).get? aa = some (seqObj "list" ws k') := by
  have := PySem.IsL.update (f := f) (show PySem.IsL h aa vs.toArray kk from e)
  rw [hf] at this
  exact ⟨_, this⟩
theorem TS_augl {l m : List D} (hx : K.fd.var i x = true) (hr : ρ[i]? = some (some (.loc n))) (he : TE K ρ (eval e K.env) σ (.lst m) σ₁) (hn : σ₁[n]? = some (.lst l)) (hz : l.length + m.length ≤ 1000000) (hm : K.may ρ i = true) :
    TS K ρ (exec (.AugAssign (.Name x p) .Add e pos) K.env) σ .next (ρ.set i (some (.loc n))) (σ₁.set n (.lst (l ++ m))) := fun u0 u0 q =>
  have hv := Fd.var_ok q.o hx
  wpAny_AugAssign_Name (load_ok q.o q.V hv.1 hv.2.1 hv.2.2 hr fun va ra => he.go q fun vb w1 n1 => by
    have ra := n1.x.rep ra
    obtain ⟨aa, em, vs, k, z, r⟩ := ob_at n1.p.I hn ra
    obtain ⟨u1, ws, k', z', r'⟩ := n1.r
    refine iadd_list (items := vs.toArray) (items2 := ws.toArray) z.is z'.is (by rw [List.size_toArray, List.size_toArray, r.length, r'.length]; exact hz) ?_
    obtain ⟨k₂, e₂⟩ := isL_update (ws := vs ++ ws) (f := fun x => x ++ ws.toArray) z.is (List.append_toArray ..)
    have u := lst_upd (t := w1.s.toks) n1.p.I z em (Heap.SameBut.update ..) e₂ (r.append r')
    revert u
    generalize ({ w1.s with heap := w1.s.heap.update aa (Obj.mapSeq fun x => x ++ ws.toArray), toks := w1.s.toks } : Shared) = s2
    rintro ⟨w2, x2, I2⟩
    exact wpAny_mono (store_ok n1.p.o I2 (n1.p.V.stepN n1.p.o x2) hv.1 hm (x2.rep ra)) (fun u0 u0 o => o.next (n1.x.trans x2)) fun u0 u0 e => e)
theorem TS_augi {k : Str} {l l' : List (Str × D)} (ho : TE K ρ (eval o K.env) σ (.loc n) σ₁) (hi : TE K ρ (eval ie K.env) σ₁ (.str k) σ₂) (hn : σ₂[n]? = some (.ds l)) (ha : kget l k = some a) (he : TE K ρ (eval e K.env) σ₂ b σ₃) (h : IBinOk op a b d) (hn' : σ₃[n]? = some (.ds l')) (hz : l'.length ≤ 1000000)
    (hst : ∀ ov iv new, augStore ie ov iv new = (do holding [new, ov, iv] (setItem ov iv new); release [new, ov, iv] []; pure .next) := by intros; rfl) : TS K ρ (exec (.AugAssign (.Subscript o ie p) op e pos) K.env) σ .next ρ (σ₃.set n (.ds (kset l' k d))) := fun u0 u0 q =>
  wpAny_AugAssign_Subscript_any (ho.go q fun vo w1 n1 => hi.go n1.p fun vi w2 n2 => by
    have ro := n2.x.rep n1.r
    obtain ⟨aa, em, ob, kvs, ne, z, dd, r⟩ := ob_at n2.p.I hn ro
    obtain ⟨t, e'⟩ := n2.r
    subst e'
    rcases kget_K k (repS_K l ▸ r) with ⟨e1, _⟩ | ⟨_, v, e1, e2, rv⟩
    · exact nomatch ha.symm.trans e1
    cases ha.symm.trans e1
    have ox := out_rep (t := w2.s.toks + 1) n2.p.I rv
    refine wpAny_getItem_of (strKind_is _ _ _ _) (ds_mapOf z dd).mapOf e2 ?_
    revert ox
    generalize ({ w2.s with toks := w2.s.toks + 1 } : Shared) = s3
    rintro ⟨w3, x3, I3, r3⟩
    exact he.go (n2.p.next x3 I3) fun vb w4 n4 => wpAny_mono (h n4.p.I (n4.x.rep r3) n4.r) (fun vn u0 ⟨w5, x5, I5, r5⟩ => by
      have x35 := (x3.trans n4.x).trans x5
      obtain ⟨a', em', ob', kvs', ne', z', dd', r'⟩ := ob_at I5 hn' (x35.rep ro)
      exact wpAny_setItem_pairs (knd := strKind K.C.prog K.C.w) (k := k) (strKind_is _ _ _ _) (ds_mapOf z' dd') (fun h' hd hs => (ds_upd I5 z' em' ne' hs hd (by rw [repS_K]; exact repK_stored (repS_K l' ▸ r') (isDictOf_nodup dd') r5)).stmt q ((n1.x.trans n2.x).trans x35)) (by rw [sizeLine_is, repK_len (repS_K l' ▸ r')]; exact Nat.le_trans hz (by decide))) fun u0 u0 e => e) hst
end
end Mine
end
section
open PySem PySem.W PyProof.Rows
namespace Mine
structure InsFacts (C : Cx) (c : Addr) (a : Str) : Prop where
  hga : findIn C.K (.ref c) "__getattribute__" = some (some (.builtin "object.__getattribute__"))
  has : hasDictIn C.K c = true
  attr : ∃ r, findIn C.K (.ref c) a = some r ∧ noGet C.K r = true
  hsa : findIn C.K (.ref c) "__setattr__" = some (some (.builtin "object.__setattr__"))
  over : plainOver C.K c = true
  taker : takerIn C.K c a = some none
theorem Inv.inK {C : Cx} {σ : St} {w : W} (I : Inv C σ w) : C.K.In w.s.heap := C.inK.keeps fun b o e => (I.base b o e).is
section
variable {C : Cx} {w w' : W} {σ : St} {name : Str} {d : D} {v u : Value} {fs : List (Str × D)} {es : List DictEntry} {A : Around} {n : Nat} {c : Addr} {E : Value → Shared → Prop}
theorem isStr_self {t : Tok} : (Value.str name t).isStr name = true := decide_eq_true rfl
theorem isStr_ne {j : Str} {t : Tok} (q : j ≠ name) : (Value.str j t).isStr name = false := decide_eq_false q
theorem repE_find : ∀ {fs : List (Str × D)} {es : List DictEntry}, RepE C w fs es → (kget fs name = none ∧ es.find? (·.key.isStr name) = none) ∨ ∃ d e, kget fs name = some d ∧ es.find? (·.key.isStr name) = some e ∧ Rep C w d e.val
  | [], _, r => by cases r; exact .inl ⟨rfl, rfl⟩
  | (j, d) :: l, _, ⟨e, r', ⟨hash, t, v, q, a⟩, b⟩ => by
    subst q
    rw [List.find?_cons]
    show ((if j = name then some d else kget l name) = none ∧ _) ∨ ∃ d' e', (if j = name then some d else kget l name) = some d' ∧ _
    by_cases q : j = name
    · subst q; rw [if_pos rfl, isStr_self]; exact .inr ⟨d, _, rfl, rfl, a⟩
    · rw [if_neg q, isStr_ne q]; exact repE_find b
theorem repE_noRef : ∀ {fs : List (Str × D)} {es : List DictEntry}, RepE C w fs es → es.any (·.refKey) = false
  | [], _, r => by cases r; rfl
  | (j, d) :: l, _, ⟨e, r', ⟨hash, t, v, q, a⟩, b⟩ => by subst q; rw [List.any_cons, repE_noRef b]; rfl
theorem repE_len : ∀ {fs : List (Str × D)} {es : List DictEntry}, RepE C w fs es → es.length = fs.length
  | [], _, r => by cases r; rfl
  | (j, d) :: l, _, ⟨e, r', _, b⟩ => congrArg (· + 1) (repE_len b)
theorem repE_look {k : Nat} (r : RepE C w fs es) : (kget fs name = none ∧ lookIn name (dictOf es k) = some none) ∨ ∃ d v, kget fs name = some d ∧ lookIn name (dictOf es k) = some (some v) ∧ Rep C w d v := by
  rw [lookIn_dict]
  unfold getL
  rcases repE_find (name := name) r with ⟨e1, e2⟩ | ⟨d, e, e1, e2, q⟩
  · exact .inl ⟨e1, by rw [e2, repE_noRef r]; rfl⟩
  · exact .inr ⟨d, e.val, e1, by rw [e2], q⟩
theorem repE_put {hash : Int} {t : Tok} : ∀ {fs : List (Str × D)} {es : List DictEntry}, RepE C w fs es → Rep C w d v → RepE C w (kset fs name d) (putL name hash (.str name t) v es)
  | [], _, r, a => by cases r; exact ⟨_, [], ⟨hash, t, v, rfl, a⟩, rfl⟩
  | (j, x) :: l, _, ⟨e, r', ⟨hash', t', v', q', b⟩, c⟩, a => by
    subst q'
    show RepE C w (if j = name then (j, d) :: l else (j, x) :: kset l name d) _
    rw [putL]
    by_cases q : j = name
    · subst q; rw [if_pos rfl, if_pos isStr_self]; exact ⟨_, r', ⟨hash', t', v, rfl, a⟩, c⟩
    · rw [if_neg q, if_neg (ne_true_of_eq_false (isStr_ne q))]; exact ⟨_, _, ⟨hash', t', v', rfl, b⟩, repE_put c a⟩
theorem rep_handed : ∀ {d : D} {v : Value}, Rep C w d v → handedIn v = true
  | .none, _, r => by cases r; rfl
  | .bool _, _, r => by cases r; rfl
  | .int _, _, ⟨_, e⟩ => e ▸ rfl
  | .str _, _, ⟨_, e⟩ => e ▸ rfl
  | .tup _, _, ⟨_, _⟩ => rfl
  | .lst _, _, ⟨_, _⟩ => rfl
  | .ds _, _, ⟨_, _⟩ => rfl
  | .di _, _, ⟨_, _⟩ => rfl
  | .loc _, _, ⟨_, _, e⟩ => e ▸ rfl
  | .lam _ _, _, ⟨_, _⟩ => rfl
theorem instAt {h : Heap} {x dx c : Addr} {es : List DictEntry} {n : Nat} (e4 : h.get? x = some (instObj c dx)) (e5 : h.get? dx = some (dictOf es n)) : InstAt h x (instObj c dx) c (some (dictOf es n)) := ⟨e4, rfl, rfl, e5⟩
theorem getattr_ok {expr : Bool} (Fa : InsFacts C c name) (I : Inv C σ w) (hn : σ[n]? = some (.ins c fs)) (hd : kget fs name = some d) (r : Rep C w (.loc n) v) : wpAny C.M A (getAttr v name expr) (fun u => OnV C d w u) E w.s := by
  obtain ⟨x, em, dx, es, k, z, zd, q⟩ := ob_at I hn r
  rcases repE_look (name := name) (k := k) q with ⟨e1, _⟩ | ⟨_, u, e1, e2, ru⟩
  · exact nomatch hd.symm.trans e1
  cases hd.symm.trans e1
  obtain ⟨ra, a1, a2⟩ := Fa.attr
  exact get_value I.inK (instAt z.is zd.is) Fa.hga (findObj_own Fa.has a1 a2 e2) (rep_handed ru) ⟨_, ru⟩
theorem kset_len {κ : Type} [DecidableEq κ] : ∀ (l : List (κ × D)) (k : κ) (d : D), (kset l k d).length ≤ l.length + 1
  | [], k, d => Nat.le_refl _
  | (j, x) :: l, k, d => by
    show (if j = k then (j, d) :: l else (j, x) :: kset l k d).length ≤ _
    split
    · exact Nat.le_succ _
    · exact Nat.succ_le_succ (kset_len l k d)
theorem setattr_ok (Fa : InsFacts C c name) (I : Inv C σ w) (hn : σ[n]? = some (.ins c fs)) (hz : fs.length ≤ 100) (r : Rep C w (.loc n) v) (ru : Rep C w d u) : wpAny C.M A (setAttr v name u) (fun u0 => Upd C σ w n (.ins c (kset fs name d))) E w.s := by
  obtain ⟨x, em, dx, es, k, z, zd, q⟩ := ob_at I hn r
  have hxd : x ≠ dx := fun q => by have := z.is; rw [q, zd.is] at this; cases this
  refine set_plain I.inK (instAt z.is zd.is) Fa.hsa ?_
  have X1 : C.K.In ({ w.s with toks := w.s.toks + 1 } : Shared).heap := I.inK
  refine osa_open (s := { w.s with toks := w.s.toks + 1 }) X1 (instAt z.is zd.is) Fa.over Fa.taker fun b => ?_
  obtain ⟨cd, hc, hd'⟩ := any_some Fa.has
  have hno := repE_noRef q
  refine wpAny_bind (wpAny_pure (wpAny_bind (wpAny_bind (wpAny_loadPart z.is (wpAny_bind ((looks_clsIn X1 hc).here ?_))))))
  rw [hd']
  refine wpAny_pure (a := some dx) (wpAny_bind (wpAny_pure (wpAny_bind ?_)))
  unfold nsSet
  refine wpAny_bind (wpAny_bind (wpAny_askSetting (wpAny_pure (wpAny_bind (wpAny_mkText (wpAny_bind (wpAny_loadPart zd.is ?_)))))))
  dsimp only
  have cc : (!(es.toArray).any (·.key.isStr name) && (es.toArray).any (·.refKey)) = false := by
    rw [← Array.any_toList, ← Array.any_toList]
    show (!es.any _ && es.any _) = false
    rw [hno, Bool.and_false]
  rw [aRefKeyMayBeTheName_at, cc]
  refine wpAny_updatePart zd.is ?_
  generalize (if name.cps.isEmpty = true then (0 : Int) else reduceHash ((model C.prog C.w).w.params.strHash name.cps)) = H
  generalize hf : Obj.putName name H (.str name (w.s.toks + 1)) u = f
  have hfo : f (dictOf es k) = dictOf (putL name H (.str name (w.s.toks + 1)) u es) (putN name es k) := by rw [← hf]; exact putName_dict _ _ _ _ _ _
  have hg : (w.s.heap.update dx f).get? dx = some (dictOf (putL name H (.str name (w.s.toks + 1)) u es) (putN name es k)) := by rw [Heap.get?_update_self _ zd.is (by rw [hfo]; rfl), hfo]
  have rp := repE_put (hash := H) (t := w.s.toks + 1) (name := name) q ru
  have hlen2 : (putL name H (.str name (w.s.toks + 1)) u es).length ≤ 1000 := Nat.le_trans (Nat.le_of_eq (repE_len rp)) (Nat.le_trans (kset_len fs name d) (by omega))
  have hother : ∀ b o, b ≠ dx → w.s.heap.get? b = some o → (w.s.heap.update dx f).get? b = some o := fun b o hb e => (Heap.get?_update_other w.s.heap f (Ne.symm hb)).trans e
  refine wpAny_bind (wpAny_lookBehind (o := dictOf (putL name H (.str name (w.s.toks + 1)) u es) (putN name es k)) hg (pastItsLine_dict (by rw [List.size_toArray, sizeLine_is]; omega)) (wpAny_pure ?_))
  exact ob_upd (t := w.s.toks + 1 + 1) I zd hg hother fun M a' e' => by cases em.symm.trans e'; exact ⟨dx, _, _, ⟨z.tag, hother _ _ hxd z.is⟩, ⟨zd.tag, hg⟩, RepE.mono M _ _ rp⟩
end
section
variable {K : Ctx} {ρ : Rho} {σ σ' σ₁ σ₂ σ₃ : St} {a b d : D} {n : Nat} {o e : Expr} {p pos : Pos} {nm : Str} {op : Operator} {c c' : Addr} {fs fs' : List (Str × D)}
theorem TE_attr (Fa : InsFacts K.C c nm) (ho : TE K ρ (eval o K.env) σ (.loc n) σ₁) (hn : σ₁[n]? = some (.ins c fs)) (hd : kget fs nm = some d)
    (he : eval (.Attribute o nm pos) K.env = (do
      let v ← eval o K.env
      standAt pos.atName
      let r ← holding [v] (getAttr v nm true)
      letTemporaryGo o v r
      pure r) := by rfl) : TE K ρ (eval (.Attribute o nm pos) K.env) σ d σ₁ := fun u0 u0 q =>
  Attribute_any_ (ho.go q fun v w1 n1 => wpAny_mono (getattr_ok Fa n1.p.I hn hd n1.r) (fun u u0 ⟨t, r⟩ => (out_rep n1.p.I r t).after n1.x) fun u0 u0 e => e) he
theorem TS_seta (Fa : InsFacts K.C c nm) (he : TE K ρ (eval e K.env) σ d σ₁) (ho : TE K ρ (eval o K.env) σ₁ (.loc n) σ₂) (hn : σ₂[n]? = some (.ins c fs)) (hz : fs.length ≤ 100) (hs : swapsWith e (some (.Attribute o nm p)) pos.line K.env = pure false := by rfl) :
    TS K ρ (exec (.Assign [.Attribute o nm p] e pos) K.env) σ .next ρ (σ₂.set n (.ins c (kset fs nm d))) := fun u0 u0 q =>
  plainObj_wpAny_Assign_Attribute (he.go q fun v w1 n1 => ho.go n1.p fun vo w2 n2 => wpAny_mono (setattr_ok Fa n2.p.I hn hz n2.r (n2.x.rep n1.r)) (fun u0 u0 u => u.stmt q (n1.x.trans n2.x)) fun u0 u0 e => e) hs
theorem TS_auga (Fa : InsFacts K.C c nm) (ho : TE K ρ (eval o K.env) σ (.loc n) σ₁) (hn : σ₁[n]? = some (.ins c fs)) (ha : kget fs nm = some a) (he : TE K ρ (eval e K.env) σ₁ b σ₂) (h : IBinOk op a b d) (hn' : σ₂[n]? = some (.ins c fs')) (hz : fs'.length ≤ 100) :
    TS K ρ (exec (.AugAssign (.Attribute o nm p) op e pos) K.env) σ .next ρ (σ₂.set n (.ins c (kset fs' nm d))) := fun u0 u0 q =>
  wpAny_AugAssign_AttributeAny (ho.go q fun vo w1 n1 => wpAny_mono (getattr_ok Fa n1.p.I hn ha n1.r) (fun u u0 ⟨t, ru⟩ => by
    have ox := out_rep (t := t) n1.p.I ru
    revert ox
    generalize ({ w1.s with toks := t } : Shared) = s3
    rintro ⟨w3, x3, I3, r3⟩
    exact he.go (n1.p.next x3 I3) fun vb w4 n4 => wpAny_mono (h n4.p.I (n4.x.rep r3) n4.r) (fun vn u0 ⟨w5, x5, I5, r5⟩ =>
      have x35 := (x3.trans n4.x).trans x5
      wpAny_mono (setattr_ok Fa I5 hn' hz (x35.rep n1.r) r5) (fun u0 u0 u => u.stmt q (n1.x.trans x35)) fun u0 u0 e => e) fun u0 u0 e => e) fun u0 u0 e => e)
end
end Mine
end
section
open PySem PySem.W PyProof.Rows
namespace Mine
noncomputable def CallTo (C : Cx) (k : Nat) (f : W → Value → Prop) (l : List D) (σ : St) (d : D) (σ' : St) : Prop :=
  ∀ ⦃A : Around⦄ ⦃w : W⦄ ⦃v : Value⦄ ⦃vals : List Value⦄ ⦃R : Result → Shared → Prop⦄, Rm k A → Inv C σ w → f w v → RepL C w l vals → (∀ u s', Out C w σ' d u s' → R (.ok (.ret u)) s') → codeAny C.M A (.call v ⟨vals, []⟩) R w.s
noncomputable def FnTo (C : Cx) (k : Nat) (fa : Addr) (l : List D) (σ : St) (d : D) (σ' : St) : Prop := CallTo C k (fun u0 v => v = .ref fa) l σ d σ'
noncomputable def LamTo (C : Cx) (k : Nat) (j : Nat) (c : List (Str × D)) (l : List D) (σ : St) (d : D) (σ' : St) : Prop := CallTo C k (fun w v => Rep C w (.lam j c) v) l σ d σ'
theorem Rm.less {j k : Nat} {A : Around} (h : Rm k A) (hj : j ≤ k) : Rm j A := ⟨h.handled, by have := h.depth; omega, by have := h.units; omega⟩
structure Glb (C : Cx) (x : Str) (v : Value) : Prop where
  at_ : C.mg x = some v
structure IsFn (C : Cx) (fa : Addr) : Prop where
  fo : ∃ o fd, C.h0.get? fa = some o ∧ o.data = .func fd
structure Bi (C : Cx) (x : Str) (v : Value) : Prop where
  mg : C.mg x = none
  mb : C.mb x = some v
noncomputable def Fd.glob (f : Fd) (x : Str) : Bool := f.scope.names.lookup x == some .globalImplicit && !(x == ("__debug__" : Str))
section
variable {K : Ctx} {ρ : Rho} {σ σ' σ₁ σ₂ σ₃ : St} {a b d : D} {n : Nat} {o e : Expr} {p pos : Pos} {x : Str} {v : Value} {w w' : W} {l : List D} {args : List Expr} {A : Around} {j : Nat} {E : Value → Shared → Prop}
theorem global_ok (q : Ok K ρ σ w) (hk : K.fd.glob x = true) (h : K.C.mg x = some v) {Q : Value → Shared → Prop} (hq : Q v w.s) : wpAny K.C.M A (eval (.Name x pos) K.env) Q E w.s := by
  unfold Fd.glob at hk
  rw [Bool.and_eq_true, Bool.not_eq_true', beq_iff_eq, ← q.o.kd] at hk
  have hg : w.s.heap.Ns K.env.globals K.C.mg := by
    rw [q.o.glob]; obtain ⟨o, es, ep, e, r⟩ := K.C.glob; exact ⟨o, es, ep, (q.I.base _ _ e).is, r⟩
  exact Calls.Name_function_global q.o.kind hk.1 (Calls.loadGlobal_global hg h hq) hk.2
theorem builtin_ok (q : Ok K ρ σ w) (hk : K.fd.glob x = true) (h : Bi K.C x v) {Q : Value → Shared → Prop} (hq : Q v w.s) : wpAny K.C.M A (eval (.Name x pos) K.env) Q E w.s := by
  unfold Fd.glob at hk
  rw [Bool.and_eq_true, Bool.not_eq_true', beq_iff_eq, ← q.o.kd] at hk
  have hg : w.s.heap.Ns K.env.globals K.C.mg := by
    rw [q.o.glob]; obtain ⟨o, es, ep, e, r⟩ := K.C.glob; exact ⟨o, es, ep, (q.I.base _ _ e).is, r⟩
  have hb : w.s.heap.Ns K.env.builtins K.C.mb := by
    rw [q.o.bi]; obtain ⟨o, es, ep, e, r⟩ := K.C.bltn; exact ⟨o, es, ep, (q.I.base _ _ e).is, r⟩
  exact Calls.Name_function_global q.o.kind hk.1 (Calls.loadGlobal_builtin hg h.mg hb h.mb hq) hk.2
theorem noStar : ∀ {args : List Expr} {env : Env} {pos : Pos}, unstarred args = true → (backTo pos (starEach args env)).any (·.1) = false
  | [], _, _, _ => rfl
  | e :: r, env, pos, h => by
    have h1 : unstarred [e] = true := by cases e <;> first | rfl | exact h
    have h2 : unstarred r = true := by cases e <;> first | exact h | cases h
    rw [starEach_cons (env := env) h1]
    show (false || (backTo pos (starEach r env)).any (·.1)) = false
    rw [noStar h2]; rfl
theorem evalArgs_spliced {M : Model} {f : Value} {args : List (Bool × Sem Value)} {s : Shared} {Q : Args → Shared → Prop} (hn : args.any (·.1) = false) (h : wpAny M A (spliced args) (fun vs s' => Q ⟨vs, []⟩ s') E s) : wpAny M A (evalArgs f true args []) Q E s := by
  cases args with
  | nil =>
    unfold evalArgs
    show wpAny M A (spliced [] >>= _) Q E s
    exact wpAny_bind (wpAny_mono h (fun vs s' h' => wpAny_bind (wpAny_pure (wpAny_holding (wpAny_bind (wpAny_pure (wpAny_bind (wpAny_pure (wpAny_pure h')))))))) fun u0 u0 x => x)
  | cons p r =>
    obtain ⟨b, x⟩ := p
    cases b with
    | true => cases hn
    | false => exact Calls.evalArgs_plain h
noncomputable abbrev TA (K : Ctx) (ρ : Rho) (args : List Expr) (pos : Pos) (σ : St) (l : List D) (σ' : St) : Prop := TL K ρ (spliced (backTo pos (starEach args K.env))) σ l σ'
theorem evalArgs_go {f : Value} (hu : unstarred args = true) (hl : TA K ρ args pos σ l σ₁) (q : Ok K ρ σ w) {Q : Args → Shared → Prop} (hq : ∀ vs w', Step NoF w w' → Ok K ρ σ₁ w' → RepL K.C w' l vs → Q ⟨vs, []⟩ w'.s) : wpAny K.C.M K.A (evalArgs f true (backTo pos (starEach args K.env)) []) Q E w.s :=
  evalArgs_spliced (noStar hu) (hl.go q hq)
theorem call_go {C : Cx} {k : Nat} {f : W → Value → Prop} {vals : List Value} (R : Rm k A) (h : CallTo C k f l σ d σ') (I : Inv C σ w) (hv : f w v) (hl : RepL C w l vals) {Q : Value → Shared → Prop} (hq : ∀ u s', Out C w σ' d u s' → Q u s') : wpAny C.M A (call v vals) Q E w.s := wpAny_call (h R I hv hl hq)
theorem TE_call {fa : Addr} (h : FnTo K.C j fa l σ₁ d σ') (hj : j ≤ K.k) (hg : Glb K.C x (.ref fa)) (hf : IsFn K.C fa) (hk : K.fd.glob x = true) (hu : unstarred args = true) (hl : TA K ρ args pos σ l σ₁) : TE K ρ (eval (.Call (.Name x p) args [] pos) K.env) σ d σ' := fun u0 u0 q => by
  obtain ⟨oo, fd, e1, e2⟩ := hf.fo
  exact wpAny_Call_Name_kw (global_ok q hk hg.at_ (Calls.callWith_function (o := oo) (fd := fd) (evalArgs_go hu hl q fun vs w1 x1 p1 r1 => ⟨⟨(p1.I.base _ _ e1).is, e2⟩, call_go (q.o.room.less hj) h p1.I rfl r1 fun u s' o => o.after x1⟩)))
theorem lam_obj {C : Cx} {c : List (Str × D)} {v : Value} (r : Rep C w (.lam j c) v) : ∃ a o fd, v = .ref a ∧ At w .fz a o ∧ o.data = .func fd := let ⟨a, ⟨o, fd, _, _, _, z, f, _, _, _⟩⟩ := r; ⟨a, o, fd, rfl, z, f⟩
theorem TE_vcall {i : Nat} {c : List (Str × D)} {m : Nat} (h : LamTo K.C m j c l σ₁ d σ') (hj : m ≤ K.k) (hx : K.fd.var i x = true) (hr : ρ[i]? = some (some (.lam j c))) (hd : (x == ("__debug__" : Str)) = false) (hu : unstarred args = true) (hl : TA K ρ args pos σ l σ₁) : TE K ρ (eval (.Call (.Name x p) args [] pos) K.env) σ d σ' := fun u0 u0 q =>
  have hv := Fd.var_ok q.o hx
  wpAny_Call_Name_kw (wpAny_Name (load_ok q.o q.V hv.1 hv.2.1 hv.2.2 hr fun v r => by
    obtain ⟨a, oo, fd, e, z, f⟩ := lam_obj r
    subst e
    exact Calls.callWith_function (o := oo) (fd := fd) (evalArgs_go hu hl q fun vs w1 x1 p1 r1 => ⟨⟨(x1.keep _ _ z).is, f⟩, call_go (q.o.room.less hj) h p1.I (x1.rep r) r1 fun u s' o => o.after x1⟩)) hd)
structure MethFacts (C : Cx) (c : Addr) (nm : Str) (f : Addr) : Prop where
  hga : findIn C.K (.ref c) "__getattribute__" = some (some (.builtin "object.__getattribute__"))
  hk : findIn C.K (.ref c) "__getattr__" = some none
  hf : findIn C.K (.ref c) nm = some (some (.ref f))
  ht : typeIn C.K (.ref f) = some (.type "function")
theorem TE_mcall {nm : Str} {apos : Pos} {c fa : Addr} {fs : List (Str × D)} {pl : Sem Bool} (h : FnTo K.C j fa (.loc n :: l) σ₂ d σ') (hj : j ≤ K.k) (Mf : MethFacts K.C c nm fa) (hf : IsFn K.C fa) (hu : unstarred args = true) (ho : TE K ρ (eval o K.env) σ (.loc n) σ₁) (hn : σ₁[n]? = some (.ins c fs)) (hfs : kget fs nm = none) (hl : TA K ρ args pos σ₁ l σ₂)
    (he : eval (.Call (.Attribute o nm apos) args [] pos) K.env = (do
      let ov ← eval o K.env
      standAt apos.atName
      let (f, first) ← holding [ov] (getMethod ov nm pl)
      callWith pos f first (backTo pos (starEach args K.env)) (backToKw pos (keywordEach [] K.env))) := by rfl) : TE K ρ (eval (.Call (.Attribute o nm apos) args [] pos) K.env) σ d σ' := fun u0 u0 q => by
  obtain ⟨oo, fd, e1, e2⟩ := hf.fo
  refine methodCall_KW (pl := pl) (ho.go q fun v w1 n1 => ?_) he
  obtain ⟨x, em, dx, es, k, z, zd, r⟩ := ob_at n1.p.I hn n1.r
  have lk : lookIn nm (dictOf es k) = some none := by
    rcases repE_look (name := nm) (k := k) r with ⟨_, e⟩ | ⟨_, _, e, _⟩
    · exact e
    · exact nomatch hfs.symm.trans e
  refine method_fn n1.p.I.inK (instAt z.is zd.is) Mf.hga Mf.hk Mf.hf Mf.ht (by show (lookIn nm (dictOf es k)).map _ = _; rw [lk]; rfl) ?_
  show wpAny K.C.M K.A (callWith pos (.ref fa) [.ref x] (backTo pos (starEach args K.env)) []) _ _ _
  exact Calls.callWith_function (o := oo) (fd := fd) (evalArgs_go hu hl n1.p fun vs w2 x2 p2 r2 => ⟨⟨(p2.I.base _ _ e1).is, e2⟩, call_go (q.o.room.less hj) h p2.I rfl ⟨_, _, x2.rep n1.r, r2⟩ fun u s' o => o.after (n1.x.trans x2)⟩)
structure NewFacts (C : Cx) (c f : Addr) : Prop where
  keep : keepIn C.K (.ref c) = true
  makes : makesIn C.K c = true
  init : findIn C.K (.ref c) "__init__" = some (some (.ref f))
  ft : typeIn C.K (.ref f) = some (.type "function")
theorem Rm.tc {k : Nat} {A : Around} (h : Rm (k + 1) A) (a : Addr) (r : List Value) (kw : List (Str × Value)) : Rm k (A.under (.builtin "type.__call__" ⟨.ref a :: r, kw⟩)) := by
  have h1 : (Code.builtin "type.__call__" ⟨.ref a :: r, kw⟩).weight = 1 := by rfl
  have h2 : (Code.builtin "type.__call__" ⟨.ref a :: r, kw⟩).cUnits = 1 := by rfl
  refine ⟨h.handled, ?_, ?_⟩
  · have := h.depth; show A.depth + _ + k < _; omega
  · have := h.units; show A.units + _ + 10 * k + 100 < _; omega
theorem TE_new {c fa : Addr} (h : FnTo K.C j fa (.loc σ₁.length :: l) (σ₁ ++ [.ins c []]) .none σ') (hj : j + 1 ≤ K.k) (hg : Glb K.C x (.ref c)) (Nf : NewFacts K.C c fa) (hk : K.fd.glob x = true) (hu : unstarred args = true) (hl : TA K ρ args pos σ l σ₁) : TE K ρ (eval (.Call (.Name x p) args [] pos) K.env) σ (.loc σ₁.length) σ' := fun u0 u0 q => by
  refine wpAny_Call_Name_kw (global_ok q hk hg.at_ ?_)
  show wpAny K.C.M K.A (callWith pos (.ref c) [] (backTo pos (starEach args K.env)) []) _ _ _
  refine callWith_of (P := K.C.K.In) (by rw [noStar hu]; rfl) (keeps_K Nf.keep) (evalArgs_go hu hl q fun vs w1 x1 p1 r1 => ⟨p1.I.inK, ?_⟩)
  refine wpAny_call ?_
  have I1 := p1.I
  have hI := looks_findIn (M := K.C.M) I1.inK Nf.init
  have hM := makes_of (M := K.C.M) I1.inK Nf.makes
  have hB : ∀ self, Looks K.C.M w1.s.heap (bindSpecial (.ref fa) self) (.ref fa, [self]) := fun self => bind_fn I1.inK self Nf.ft
  obtain ⟨⟨hh, gg, dd, tt, oo⟩, tg, mn⟩ := w1
  refine make_core hM hI hB (.inl rfl) ?_
  dsimp only at hM hI hB ⊢
  have f1 := Heap.fresh0 hh
  have sz : (hh.push emptyDict).objs.size = hh.objs.size + 1 := Heap.size_push ..
  have f2 : hh.get? (hh.push emptyDict).objs.size = none := dead_of (w := ⟨⟨hh, gg, dd, tt, oo⟩, tg, mn⟩) fun ⟨o, q⟩ => by
    have := Heap.lt_size q
    rw [sz] at this; exact Nat.not_succ_lt_self this
  have gx : ((hh.push emptyDict).push (instObj c hh.objs.size)).get? (hh.push emptyDict).objs.size = some (instObj c hh.objs.size) := Heap.get?_push_size _ rfl
  have gd : ((hh.push emptyDict).push (instObj c hh.objs.size)).get? hh.objs.size = some emptyDict := Heap.get?_push_of_some _ (Heap.get?_push_size _ rfl)
  rw [← sz]
  generalize (hh.push emptyDict).objs.size = x at f2 gx
  generalize hh.objs.size = dx at f1 gx gd
  have c1 : Chg NoX ⟨⟨hh, gg, dd, tt, oo⟩, tg, mn⟩ (W.put ⟨⟨hh, gg, dd, tt, oo⟩, tg, mn⟩ [x, dx] (.ob σ₁.length) ((hh.push emptyDict).push (instObj c dx)) tt [x]) := .put fun t u0 b o z =>
    ⟨fun m => (List.mem_cons.mp m).elim (fun e => z.alive.no (e ▸ f2)) fun m => z.alive.no (List.mem_singleton.mp m ▸ f1), Heap.get?_push_of_some _ (Heap.get?_push_of_some _ z.is)⟩
  have x2 := c1.step (F := NoF) id fun u0 => id
  have tx : ∀ b, b = x ∨ b = dx → (W.put ⟨⟨hh, gg, dd, tt, oo⟩, tg, mn⟩ [x, dx] (.ob σ₁.length) ((hh.push emptyDict).push (instObj c dx)) tt [x]).tag b = .ob σ₁.length := fun b e => if_pos (e.elim (fun e => e ▸ .head _) fun e => e ▸ .tail _ (.head _))
  have I2 := I1.new (co := .ins c []) c1 (fun b m => (List.mem_cons.mp m).elim (fun e => ⟨_, e ▸ gx⟩) fun m => by rw [List.mem_singleton.mp m]; exact ⟨_, gd⟩) (fun b ⟨o, e⟩ => ⟨o, Heap.get?_push_of_some _ (Heap.get?_push_of_some _ e)⟩)
    (fun b m q => nomatch (I1.dead b ((List.mem_cons.mp m).elim (fun e => e ▸ f2) fun m => List.mem_singleton.mp m ▸ f1)).symm.trans q) ⟨dx, [], 0, ⟨tx _ (.inl rfl), gx⟩, ⟨tx _ (.inr rfl), gd⟩, rfl⟩
  have rx : Rep K.C (W.put ⟨⟨hh, gg, dd, tt, oo⟩, tg, mn⟩ [x, dx] (.ob σ₁.length) ((hh.push emptyDict).push (instObj c dx)) tt [x]) (.loc σ₁.length) (.ref x) :=
    ⟨x, by show (mn ++ [x])[σ₁.length]? = _; rw [← I1.len, List.getElem?_append_right (Nat.le_refl _), Nat.sub_self]; rfl, rfl⟩
  refine h (w := W.put ⟨⟨hh, gg, dd, tt, oo⟩, tg, mn⟩ [x, dx] (.ob σ₁.length) ((hh.push emptyDict).push (instObj c dx)) tt [x]) ((q.o.room.less hj).tc _ _ _) I2 rfl ⟨_, _, rx, x2.repL r1⟩ fun u s' ⟨w3, x3, I3, r3⟩ => ⟨r3, w3, (x1.trans x2).trans x3, I3, x3.rep rx⟩
end
end Mine
end
section
open PySem PySem.W PyProof.Rows
namespace Mine
theorem zip_lookup : ∀ {ns : List Str} {vs : List Value} {n : Str}, ns.length = vs.length → n ∈ ns → ∃ v, (ns.zip vs).lookup n = some v
  | a :: ns, v :: vs, n, h, m => by
    rw [List.zip_cons_cons, List.lookup_cons]
    cases q : n == a with
    | true => exact ⟨v, rfl⟩
    | false => exact (List.mem_cons.mp m).elim (fun e => by rw [e, BEq.rfl] at q; cases q) fun m => zip_lookup (Nat.succ.inj h) m
theorem zip_filterMap : ∀ {ns : List Str} {vs : List Value} {L : List (Str × Value)}, ns.length = vs.length → ns.Nodup → (∀ n v, (n, v) ∈ ns.zip vs → L.lookup n = some v) → ns.filterMap (fun n => (L.lookup n).map (n, ·)) = ns.zip vs
  | [], vs, _, _, _, _ => rfl
  | a :: ns, v :: vs, L, h, nd, f => by
    rw [List.zip_cons_cons, List.filterMap_cons, f a v (.head _)]
    exact congrArg ((a, v) :: ·) (zip_filterMap (Nat.succ.inj h) (List.nodup_cons.mp nd).2 fun n w m => f n w (.tail _ m))
theorem zip_self {ns : List Str} : ∀ {vs : List Value}, ns.length = vs.length → ns.Nodup → ∀ n v, (n, v) ∈ ns.zip vs → (ns.zip vs).lookup n = some v := by
  induction ns with
  | nil => exact fun u0 u0 n v m => nomatch m
  | cons a ns ih =>
    intro vs h nd n v m
    cases vs with
    | nil => cases h
    | cons w vs =>
      rw [List.zip_cons_cons] at m ⊢
      rw [List.lookup_cons]
      rcases List.mem_cons.mp m with e | m
      · cases e; rw [BEq.rfl]
      · rw [beq_false_of_ne fun (q : n = a) => (List.nodup_cons.mp nd).1 (q ▸ (List.of_mem_zip m).1)]
        exact ih (Nat.succ.inj h) (List.nodup_cons.mp nd).2 n v m
theorem bind_plain {fd : FuncData} {ps : List Arg} {vals : List Value} (hp : fd.params = ⟨[], ps, none, [], [], none, []⟩) (hd : fd.defaults = .none) (nd : (ps.map (·.arg)).Nodup) (hl : (ps.map (·.arg)).length = vals.length) :
    bindArgs fd ⟨vals, []⟩ = pure ((ps.map (·.arg)).zip vals) := by
  have h1 : (ps.map (·.arg)).filter (fun n => (((ps.map (·.arg)).zip vals).lookup n).isNone) = [] := by
    rw [List.filter_eq_nil_iff]
    intro n m
    obtain ⟨v, e⟩ := zip_lookup hl m
    rw [e]; exact Bool.false_ne_true
  have h2 := zip_filterMap (L := (ps.map (·.arg)).zip vals) hl nd (zip_self hl nd)
  clear nd
  obtain ⟨a, b, params, body, scope, globals, closure, defaults, kd, doc, pm, an, code, ct, bi⟩ := fd
  cases hp
  cases hd
  have z : ∀ (l : List Str) n, l.zip (List.drop n ([] : List Value)) = [] := fun l n => by rw [List.drop_nil, List.zip_nil_right]
  have hn : ¬ (decide (vals.length > (ps.map (·.arg)).length) && true) = true := by rw [hl, decide_eq_false (Nat.lt_irrefl _)]; exact Bool.false_ne_true
  show (ite _ _ _ : Sem _) = _
  refine (if_neg hn).trans ?_
  show (ite _ _ _ : Sem _) = _
  refine (if_neg ?_).trans ?_
  · show ¬ (!(((ps.map (·.arg)).take ((ps.map (·.arg)).length - (List.drop (0 - (ps.map (·.arg)).length) ([] : List Value)).length)).filter (fun n => (((ps.map (·.arg)).zip vals).lookup n).isNone)).isEmpty) = true
    rw [List.drop_nil, List.length_nil, Nat.sub_zero, List.take_length, h1]
    exact Bool.false_ne_true
  show (forIn (List.zip _ (List.drop _ ([] : List Value))) _ _ >>= _ : Sem _) = _
  rw [z]
  show (pure (List.filterMap (fun n => (((ps.map (·.arg)).zip vals).lookup n).map (n, ·)) (ps.map (·.arg) ++ [])) : Sem _) = _
  rw [List.append_nil, h2]
inductive StoL (f : Fd) : List Str → List D → Rho → Rho → Prop
  | nil {ρ : Rho} : StoL f [] [] ρ ρ
  | cons {x : Str} {xs : List Str} {d : D} {ds : List D} {ρ ρ' : Rho} (i : Nat) (hi : f.ns[i]? = some x) (hm : f.may ρ i = true) (r : StoL f xs ds (ρ.set i (some d)) ρ') : StoL f (x :: xs) (d :: ds) ρ ρ'
theorem StoL.len {f : Fd} {xs : List Str} {ds : List D} {ρ ρ' : Rho} (h : StoL f xs ds ρ ρ') : xs.length = ds.length := by
  induction h with
  | nil => rfl
  | cons _ _ _ _ ih => exact congrArg (· + 1) ih
theorem store_each {K : Ctx} {σ : St} {E : Value → Shared → Prop} {M : Model} {A : Around} {f : Str × Value → PUnit → Sem (ForInStep PUnit)} (hf : ∀ n v u, f (n, v) u = (do storeName K.env n v; pure (ForInStep.yield PUnit.unit))) {xs : List Str} {ds : List D} {ρ ρ' : Rho} (h : StoL K.fd xs ds ρ ρ') :
    ∀ {vs : List Value} {w : W}, Ok K ρ σ w → RepL K.C w ds vs → wpAny M A (forIn (xs.zip vs) PUnit.unit f) (fun u0 => OutN K K.own1 w σ ρ') E w.s := by
  induction h with
  | nil => intro vs w p r; rw [List.zip_nil_left, List.forIn_nil]; exact wpAny_pure ⟨w, .refl _ _, p.I, p.V⟩
  | cons i hi hm _ ih =>
    intro vs w p ⟨v, vs, r1, r2⟩
    rw [List.zip_cons_cons, List.forIn_cons, hf]
    exact wpAny_bind (wpAny_bind (wpAny_mono (store_ok p.o p.I p.V hi hm r1) (fun u0 u0 ⟨w1, x1, I1, V1⟩ => wpAny_pure (wpAny_mono (ih ⟨p.o, I1, V1⟩ (x1.repL r2)) (fun u0 u0 o => o.after x1) fun u0 u0 e => e)) fun u0 u0 e => e))
noncomputable def plainP (p : Arguments) : Bool := match p with
  | ⟨po, _, va, ko, kd, kw, d⟩ => po.isEmpty && va.isNone && ko.isEmpty && kd.isEmpty && kw.isNone && d.isEmpty
theorem plainP_ok {p : Arguments} (h : plainP p = true) : p = ⟨[], p.args, none, [], [], none, []⟩ := by
  obtain ⟨po, ar, va, ko, kd, kw, d⟩ := p
  unfold plainP at h
  simp only [Bool.and_eq_true, List.isEmpty_iff, Option.isNone_iff_eq_none] at h
  obtain ⟨⟨⟨⟨⟨rfl, rfl⟩, rfl⟩, rfl⟩, rfl⟩, rfl⟩ := h
  rfl
noncomputable def fnB (f : Fd) (params : Arguments) (frees : List Str) : Bool :=
  plainP params && nodupB (params.args.map (·.arg)) && f.scope.kind == .function && !f.scope.isCoroutine && !f.scope.isGenerator && nodupB (f.scope.names.map (·.1)) && nodupB f.ns && nmB (ownK f.scope) f.own 0 f.ns && f.own.all (fun i => decide (i < f.ns.length))
  && f.scope.names.all (fun p => !(p.2 == .free) || frees.contains p.1)
structure FnOk (f : Fd) (params : Arguments) (frees : List Str) : Prop where
  pl : params = ⟨[], params.args, none, [], [], none, []⟩
  ndp : (params.args.map (·.arg)).Nodup
  kind : f.scope.kind = .function
  co : f.scope.isCoroutine = false
  ge : f.scope.isGenerator = false
  nd : ∀ x k, (x, k) ∈ f.scope.names → f.scope.names.lookup x = some k
  nds : f.ns.Nodup
  own : ∀ (i : Nat) x, f.ns[i]? = some x → (i ∈ f.own ↔ f.scope.names.lookup x = some .local ∨ f.scope.names.lookup x = some .cell)
  lt : ∀ i ∈ f.own, i < f.ns.length
  fre : ∀ x, f.scope.names.lookup x = some .free → x ∈ frees
theorem fnB_ok {f : Fd} {params : Arguments} {frees : List Str} (h : fnB f params frees = true) : FnOk f params frees := by
  obtain ⟨h, h10⟩ := Bool.and_eq_true_iff.mp h
  obtain ⟨h, h9⟩ := Bool.and_eq_true_iff.mp h
  obtain ⟨h, h8⟩ := Bool.and_eq_true_iff.mp h
  obtain ⟨h, h7⟩ := Bool.and_eq_true_iff.mp h
  obtain ⟨h, h6⟩ := Bool.and_eq_true_iff.mp h
  obtain ⟨h, h5⟩ := Bool.and_eq_true_iff.mp h
  obtain ⟨h, h4⟩ := Bool.and_eq_true_iff.mp h
  obtain ⟨h, h3⟩ := Bool.and_eq_true_iff.mp h
  obtain ⟨h1, h2⟩ := Bool.and_eq_true_iff.mp h
  refine ⟨plainP_ok h1, nodupB_ok h2, eq_of_beq h3, (Bool.not_eq_true' _).mp h4, (Bool.not_eq_true' _).mp h5, fun x k m => lookup_nodup (nodupB_ok h6) m, nodupB_ok h7, fun i x e => ?_, fun i m => of_decide_eq_true (List.all_eq_true.mp h9 i m), fun x q => ?_⟩
  · have := nmB_ok h8 i x e
    rw [Nat.zero_add] at this
    rw [← List.contains_iff_mem, this]
    exact Bool.or_eq_true_iff.trans (or_congr beq_iff_eq beq_iff_eq)
  · have := List.all_eq_true.mp h10 _ (mem_of_lookup q)
    exact (Bool.or_eq_true_iff.mp this).elim (fun q => nomatch q) fun q => List.contains_iff_mem.mp q
noncomputable abbrev Ctx.fn (C : Cx) (A : Around) (k : Nat) (f : Fd) (env : Env) : Ctx := ⟨C, A, k, env, f, [env.locals]⟩
structure HandsOk (C : Cx) (w : W) (f : Fd) (cl : List (Str × Addr)) (ρ : Rho) : Prop where
  bl : ∀ i ∈ f.own, ρ[i]? = some none
  has : ∀ x, f.scope.names.lookup x = some .free → ∃ c, cl.lookup x = some c
  hand : ∀ x c, cl.lookup x = some c → ∃ o v, At w .fz c o ∧ o.data = .cell (some v) ∧ ∀ (i : Nat) d, f.ns[i]? = some x → ρ[i]? = some (some d) → Rep C w d v
theorem fn_frame {C : Cx} {σ : St} {w : W} {A A' : Around} {k : Nat} {f : Fd} {params : Arguments} {frees : List Str} {cl : List (Str × Addr)} {ρ₀ ρ : Rho} {xs : List Str} {l : List D} {vals : List Value} {qual : Str} {func : Option Addr} {code : Value} {E : Value → Shared → Prop} {Q : Env → Shared → Prop}
    (S : FnOk f params frees) (I : Inv C σ w) (R : Rm (k + 1) A) (H : HandsOk C w f cl ρ₀) (st : StoL f xs l ρ₀ ρ) (hl : RepL C w l vals)
    (hq : ∀ env w', env.code = code → NoT w env.locals → Step NoF w w' → Ok (.fn C (A.deeper env) k f env) ρ σ w' → Q env w'.s) : wpAny C.M A' (newFunctionEnv f.scope mainGlobals cl (xs.zip vals) qual func code none builtinsNs) Q E w.s := by
  simp only [newFunctionEnv, Option.isSome_none, Bool.false_eq_true, if_false]
  refine wpAny_bind (wpAny_alloc ?_)
  refine wpAny_bind (wpAny_layCells _ (fun name kind cells => by cases hkc : kind == NameKind.cell <;> simp) _ _ _ _ ?_)
  rw [show ({ w.s with heap := w.s.heap.push { cls := .type "frame", data := .dict #[] } } : Shared).heap.objs.size = w.s.heap.objs.size + 1 from Heap.size_push ..]
  have F : FrameAt (.fn C (A.deeper (newEnv f.scope w.s.heap.objs.size mainGlobals (cellsFrom (w.s.heap.objs.size + 1) f.scope.names cl) qual func code none builtinsNs)) k f (newEnv f.scope w.s.heap.objs.size mainGlobals (cellsFrom (w.s.heap.objs.size + 1) f.scope.names cl) qual func code none builtinsNs)) w f.scope.names cl ρ₀ :=
    ⟨R.deeper _, rfl, S.kind, rfl, rfl, S.nds, rfl, rfl, .head _, fun j m => .inl (List.mem_singleton.mp m), (fun i m d e => nomatch (H.bl i m).symm.trans e), fun i m => by unfold Ctx.tagOf; rw [H.bl i m], fun i x e h => (S.own i x e).mpr (h.imp id (S.nd x _)), fun i m x e => ((S.own i x e).mp m).imp id fun h => ⟨h, mem_of_lookup h⟩,
     fun x h => h.imp (fun h => mem_of_lookup h) (H.has x), fun x c e => let ⟨o, v, z, e1, r⟩ := H.hand x c e; ⟨o, some v, .fz, z, e1, .inl rfl, fun i d a b => ⟨v, rfl, r i d a b⟩⟩⟩
  have nf := frame_new F I (.type "frame") w.s.toks
  have nl := NoT.of I (Heap.fresh0 w.s.heap)
  revert nf
  show NewF _ _ _ _ { w.s with heap := pushCells (w.s.heap.push { cls := .type "frame", data := .dict #[] }) f.scope.names } → _
  generalize ({ w.s with heap := pushCells (w.s.heap.push { cls := .type "frame", data := .dict #[] }) f.scope.names } : Shared) = s1
  rintro ⟨w1, x1, p1⟩
  refine wpAny_bind (wpAny_mono (store_each (fun n v u => rfl) st p1 (x1.repL hl)) (fun u0 u0 ⟨w2, x2, I2, V2⟩ => wpAny_pure ?_) fun u0 u0 e => e)
  exact hq _ w2 rfl nl ((x1.ofN.trans x2).tight fun b q => .inr (q ▸ nl)) ⟨p1.o, I2, V2⟩
structure FnAt (C : Cx) (fa : Addr) (params : Arguments) (scope : Scope) (body : List Stmt) (c : Addr) : Prop where
  at_ : ∃ o fd, C.h0.get? fa = some o ∧ o.data = .func fd ∧ fd.body = .stmts body ∧ fd.params = params ∧ fd.scope = scope ∧ fd.globals = mainGlobals ∧ fd.builtins = builtinsNs ∧ fd.closure = [] ∧ fd.defaults = .none ∧ fd.code = .ref c ∧ C.h0.CodeRec (.ref c) fd.qualname
theorem FnAt.isFn {C : Cx} {fa : Addr} {params : Arguments} {scope : Scope} {body : List Stmt} {c : Addr} (h : FnAt C fa params scope body c) : IsFn C fa := let ⟨o, fd, e, d, _⟩ := h.at_; ⟨o, fd, e, d⟩
inductive OutR (K : Ctx) (w : W) (σ : St) (d : D) : Flow → Shared → Prop
  | mk (w' : W) (x : Step K.own1 w w') (I : Inv K.C σ w') (v : Value) (r : Rep K.C w' d v) : OutR K w σ d (.ret v) w'.s
noncomputable def TR (K : Ctx) (ρ : Rho) (t : Sem Flow) (σ : St) (d : D) (σ' : St) : Prop := ∀ ⦃w : W⦄ ⦃E : Value → Shared → Prop⦄, Ok K ρ σ w → wpAny K.C.M K.A t (OutR K w σ' d) E w.s
section
variable {K : Ctx} {ρ ρ' ρ₁ : Rho} {σ σ₁ σ' : St} {w w' : W} {d : D} {pos : Pos}
theorem OutR.after (x : Step K.own1 w w') {f : Flow} {s : Shared} : OutR K w' σ d f s → OutR K w σ d f s
  | ⟨w₂, a, b, v, h⟩ => ⟨w₂, x.trans a, b, v, h⟩
theorem TR_cons {st : Stmt} {rest : List Stmt} (h1 : TS K ρ (exec st K.env) σ .next ρ₁ σ₁) (h2 : TR K ρ₁ (execs rest K.env) σ₁ d σ') : TR K ρ (execs (st :: rest) K.env) σ d σ' := fun u0 u0 p =>
  wpAny_execs_cons (wpAny_mono (h1 p) (fun u0 u0 ⟨_, x1, I1, V1, h⟩ => by cases h; exact wpAny_mono (h2 ⟨p.o, I1, V1⟩) (fun u0 u0 o => o.after x1) fun u0 u0 e => e) fun u0 u0 e => e)
theorem TR_stop {st : Stmt} {rest : List Stmt} (h : TR K ρ (exec st K.env) σ d σ') : TR K ρ (execs (st :: rest) K.env) σ d σ' := fun u0 u0 p =>
  wpAny_execs_cons (wpAny_mono (h p) (fun u0 u0 ⟨w1, x1, I1, v, r⟩ => ⟨w1, x1, I1, v, r⟩) fun u0 u0 e => e)
theorem TR_of {t : Sem Flow} (h : TS K ρ t σ (.ret d) ρ' σ') : TR K ρ t σ d σ' := fun u0 u0 p => wpAny_mono (h p) (fun u0 u0 ⟨w1, x1, I1, _, r⟩ => by cases r with | ret r => exact ⟨w1, x1, I1, _, r⟩) fun u0 u0 e => e
theorem TR_if_t {test : Expr} {body els : List Stmt} (ht : TB K ρ (isTrue test K.env (eval test K.env)) σ true σ₁) (h : TR K ρ (execs body K.env) σ₁ d σ') : TR K ρ (exec (.If test body els pos) K.env) σ d σ' := fun u0 u0 p =>
  wpAny_If (ht.go p fun w1 x1 p1 => wpAny_mono (h p1) (fun u0 u0 o => o.after x1.ofN) fun u0 u0 e => e)
theorem TR_if_f {test : Expr} {body els : List Stmt} (ht : TB K ρ (isTrue test K.env (eval test K.env)) σ false σ₁) (h : TR K ρ (execs els K.env) σ₁ d σ') : TR K ρ (exec (.If test body els pos) K.env) σ d σ' := fun u0 u0 p =>
  wpAny_If (ht.go p fun w1 x1 p1 => wpAny_mono (h p1) (fun u0 u0 o => o.after x1.ofN) fun u0 u0 e => e)
theorem TR_ret {e : Expr} (h : TE K ρ (eval e K.env) σ d σ') : TR K ρ (exec (.Return (some e) pos) K.env) σ d σ' := fun u0 u0 p => wpAny_Return_some (h.go p fun v w1 n => ⟨w1, n.x.ofN, n.p.I, v, n.r⟩)
end
inductive Body (C : Cx) (k : Nat) (f : Fd) (c : Addr) (body : List Stmt) (ρ : Rho) (σ : St) : D → St → Prop
  | ret {d : D} {σ' : St} (h : ∀ A env, env.code = .ref c → TR (.fn C A k f env) ρ (execs body env) σ d σ') : Body C k f c body ρ σ d σ'
  | none {σ' : St} (ρ' : Rho) (h : ∀ A env, env.code = .ref c → TS (.fn C A k f env) ρ (execs body env) σ .next ρ' σ') : Body C k f c body ρ σ .none σ'
theorem hands0 {C : Cx} {w : W} {f : Fd} {params : Arguments} (S : FnOk f params []) : HandsOk C w f [] (List.replicate f.ns.length none) :=
  ⟨fun i m => (List.getElem?_replicate ..).trans (if_pos (S.lt i m)), (fun x h => nomatch S.fre x h), fun u0 u0 e => nomatch e⟩
theorem call_fn {C : Cx} {fa c : Addr} {params : Arguments} {f : Fd} {body : List Stmt} {k : Nat} {l : List D} {ρ : Rho} {σ σ' : St} {d : D} (hlim : C.h0.NoLimit) (At : FnAt C fa params f.scope body c) (B : fnB f params [] = true) (st : StoL f (params.args.map (·.arg)) l (List.replicate f.ns.length none) ρ) (b : Body C k f c body ρ σ d σ') :
    FnTo C (k + 1) fa l σ d σ' := fun {A w v vals R} Rr I hv hl hR => by
  subst hv
  have S := fnB_ok B
  obtain ⟨o, fd, e1, e2, e3, e4, e5, e6, e7, e8, e9, e11, e12⟩ := At.at_
  have keep : ∀ b o, C.h0.get? b = some o → w.s.heap.get? b = some o := fun b o e => (I.base b o e).is
  refine codeAny_call_function (fd := fd) (body := body) Rr.room (keep _ _ e1) e2 (e5 ▸ S.co) (e5 ▸ S.ge) e3 (by rw [e11]; exact e12.keeps keep) ?_
  rw [bind_plain (fd := fd) (ps := params.args) (vals := vals) (e4.trans S.pl) e9 S.ndp (st.len.trans hl.length.symm)]
  refine wpAny_pure ?_
  rw [e5, e6, e7, e8, e11]
  refine fn_frame S I Rr (hands0 S) st hl fun env w1 hc nl x1 p1 => ⟨hlim.at fun o e => (p1.I.base _ o e).is, codeAny_func ?_⟩
  cases b with
  | ret h => exact wpAny_mono (h _ env hc (E := fun u0 u0 => False) p1) (fun fq u0 ⟨w2, x2, I2, v, r⟩ => hR _ _ ⟨w2, (x1.ofN.trans x2).tight fun b q => .inr (q ▸ nl), I2, r⟩) fun e s' q => q.elim
  | none ρ' h => exact wpAny_mono (h _ env hc (E := fun u0 u0 => False) p1) (fun fq u0 ⟨w2, x2, I2, V2, r⟩ => by cases r; exact hR _ _ ⟨w2, (x1.ofN.trans x2).tight fun b q => .inr (q ▸ nl), I2, rfl⟩) fun e s' q => q.elim
noncomputable def capR (f : Fd) (c : List (Str × D)) : Rho := f.ns.map fun x => kget c x
theorem kget_mem {κ : Type} [DecidableEq κ] : ∀ {l : List (κ × D)} {k : κ} {d : D}, kget l k = some d → (k, d) ∈ l
  | (j, x) :: l, k, d, h => by
    have h : (if j = k then some x else kget l k) = some d := h
    by_cases q : j = k
    · subst q; cases (if_pos rfl).symm.trans h; exact .head _
    · exact .tail _ (kget_mem ((if_neg q).symm.trans h))
theorem repC_get {C : Cx} {w : W} {cl : List (Str × Addr)} : ∀ {c : List (Str × D)}, RepC C w c cl → ∀ {x d}, (x, d) ∈ c → HCell w x cl (Rep C w d)
  | _ :: _, ⟨a, b⟩, _, _, m => by
    cases m with
    | head => exact a
    | tail _ m => exact repC_get b m
theorem call_lam {C : Cx} {params : Arguments} {f : Fd} {body : Expr} {k j : Nat} {c : List (Str × D)} {l : List D} {ρ : Rho} {σ σ' : St} {d : D} (hlim : C.h0.NoLimit) (hlt : ∀ i, C.LT j i → i = ⟨params, body, f.scope⟩) (B : fnB f params (c.map (·.1)) = true) (hf : (c.map (·.1)).all (fun x => f.scope.names.lookup x == some .free) = true)
    (st : StoL f (params.args.map (·.arg)) l (capR f c) ρ) (b : ∀ A env, TE (.fn C A k f env) ρ (eval body env) σ d σ') : LamTo C (k + 1) j c l σ d σ' := fun {A w v vals R} Rr I hv hl hR => by
  have S := fnB_ok B
  obtain ⟨a, o, fd, cd, oc, i, z, e2, zc, L, rc⟩ := hv
  cases hlt i L.lt
  obtain ⟨vs, t, r1, r2⟩ := L.rec'
  have hcn : ∀ x, x ∈ c.map (·.1) → f.scope.names.lookup x = some .free := fun x m => eq_of_beq (List.all_eq_true.mp hf x m)
  have e5 : fd.scope = f.scope := L.scope
  refine kla_callFunE (fd := fd) (body := body) Rr.room z.is e2 (e5 ▸ S.co) (e5 ▸ S.ge) L.body (by rw [L.code]; exact ⟨cd, oc, vs, t, rfl, zc.is, r1, r2⟩) ?_
  rw [bind_plain (fd := fd) (ps := params.args) (vals := vals) (L.params.trans S.pl) L.defaults S.ndp (st.len.trans hl.length.symm)]
  refine wpAny_pure ?_
  rw [e5, L.globals, L.builtins]
  have gk : ∀ {i x d}, f.ns[i]? = some x → (capR f c)[i]? = some (some d) → kget c x = some d := fun {i x d} a e => by
    unfold capR at e; rw [List.getElem?_map, a] at e; exact Option.some.inj e
  refine fn_frame S I Rr ⟨fun i m => ?_, fun x h => ?_, fun x c' e => ?_⟩ st hl fun env w1 hc nl x1 p1 => ⟨hlim.at fun o e => (p1.I.base _ o e).is, kla_codeExpr ?_⟩
  · have hi := S.lt i m
    have : (capR f c)[i]? = some (kget c f.ns[i]) := by unfold capR; rw [List.getElem?_map, List.getElem?_eq_getElem hi]; rfl
    rw [this]
    cases q : kget c f.ns[i] with
    | none => rfl
    | some d =>
      have h1 := hcn _ (List.mem_map.mpr ⟨_, kget_mem q, rfl⟩)
      exact ((S.own i _ (List.getElem?_eq_getElem hi)).mp m).elim (fun h => nomatch h1.symm.trans h) fun h => nomatch h1.symm.trans h
  · obtain ⟨⟨y, d⟩, m, e⟩ := List.mem_map.mp (S.fre x h)
    cases e
    obtain ⟨c', u1, u2, e, u3⟩ := repC_get rc m
    exact ⟨c', e⟩
  · obtain ⟨d, m⟩ := L.caps x c' e
    obtain ⟨c₂, o, v, e1, z, e2, r⟩ := repC_get rc m
    cases e.symm.trans e1
    refine ⟨o, v, z, e2, fun i d' a b => ?_⟩
    obtain ⟨c₃, o', v', e1', z', e2', r'⟩ := repC_get rc (kget_mem (gk a b))
    cases e.symm.trans e1'
    cases z.is.symm.trans z'.is
    cases e2.symm.trans e2'
    exact r'
  · exact wpAny_mono (b (A.deeper env) env (E := fun u0 u0 => False) p1) (fun u u0 o => hR u _ (o.after x1)) fun e s' q => q.elim
end Mine
end
section
open PySem PySem.W PyProof.Rows
namespace Mine
noncomputable def plainVal : Value → Bool
  | .builtin _ => true
  | .type _ => true
  | _ => false
inductive Grown (C : Cx) (w : W) (σ : St) (h : Heap) : Shared → Prop
  | mk (w' : W) (x : Step NoF w w') (I : Inv C σ w') (e : w'.s.heap = h) (tg : ∀ b, w'.tag b = w.tag b) : Grown C w σ h w'.s
theorem grown {C : Cx} {w : W} {σ : St} {h : Heap} (I : Inv C σ w) (t : Tok) (hk : ∀ b o, w.s.heap.get? b = some o → h.get? b = some o) : Grown C w σ h { w.s with heap := h, toks := t } :=
  ⟨w.put [] .fz h t [], .grow hk, I.grow hk, rfl, fun b => show (if b ∈ ([] : List Addr) then Tag.fz else w.tag b) = w.tag b from if_neg List.not_mem_nil⟩
section
variable {K : Ctx} {ρ : Rho} {σ σ' σ₁ : St} {w w' : W} {x : Str} {p pos : Pos} {args : List Expr} {l : List D} {v : Value} {E : Value → Shared → Prop} {e o target : Expr} {A : Around} {C : Cx} {n : Nat}
theorem callWith_go {first : List Value} (hv : plainVal v = true) (hu : unstarred args = true) (hl : TA K ρ args pos σ l σ₁) (q : Ok K ρ σ w) {Q : Value → Shared → Prop}
    (hq : ∀ vs w', Step NoF w w' → Ok K ρ σ₁ w' → RepL K.C w' l vs → wpAny K.C.M K.A (call v (first ++ vs)) Q E w'.s) : wpAny K.C.M K.A (callWith pos v first (backTo pos (starEach args K.env)) []) Q E w.s := by
  cases v <;> first | (cases hv; done) | skip
  · exact PyProof.Rows.callWith_type (noStar hu) (evalArgs_go hu hl q hq)
  · exact Calls.callWith_builtin (noStar hu) (evalArgs_go hu hl q hq)
theorem TE_bi {d : D} (hb : Bi K.C x v) (hk : K.fd.glob x = true) (hv : plainVal v = true) (hu : unstarred args = true) (hl : TA K ρ args pos σ l σ₁) (h : ∀ {w vs} {E : Value → Shared → Prop}, Ok K ρ σ₁ w → RepL K.C w l vs → wpAny K.C.M K.A (call v vs) (Out K.C w σ' d) E w.s) : TE K ρ (eval (.Call (.Name x p) args [] pos) K.env) σ d σ' := fun u0 u0 q =>
  wpAny_Call_Name_kw (builtin_ok q hk hb (callWith_go (first := []) hv hu hl q fun vs w1 x1 p1 r1 => wpAny_mono (h p1 r1) (fun u0 u0 o => o.after x1) fun u0 u0 e => e))
theorem iter_rangeO {a b c : Int} {r : Addr} {t u v : Tok} (hh : A.handled = none) (I : Inv C σ w) (hr : IsRange w.s.heap r a b c t u v) (hsmall : Builtin.Range.small a b c = true) (hz : Builtin.Range.rangeSize a b c = (n : Int)) {f : Nat → Int} (hf : ∀ i : Nat, a + (i : Int) * c = f i) :
    wpAny C.M A (pyIter (.ref r)) (IterO C A target Nl ((List.range n).map fun i => .int (f i)) w σ) E w.s := by
  have hn : (Builtin.Range.rangeSize a b c).toNat = n := by rw [hz]; rfl
  refine wpAny_pyIter_range hr hsmall (iterO_of I rfl (Walks.range hh w.s.heap.objs.size a c n) (by rw [List.length_map, List.length_range]) (fun i s' v Q E st q => go_of st rfl (by decide) q) (fun i h st => ⟨_, st⟩) (aux := fun u0 => True) (fun u0 u0 u0 h => h) (fun i d w v hd u0 hv => ?_) trivial ?_ fun b hb => .inl (List.mem_singleton.mp hb))
  · obtain ⟨t, rfl⟩ := hv
    rw [List.getElem?_map] at hd
    obtain ⟨j, e, rfl⟩ := Option.map_eq_some_iff.mp hd
    obtain ⟨h1, h2⟩ := List.getElem?_eq_some_iff.mp e
    rw [List.getElem_range] at h2
    exact ⟨t, by rw [hf, h2]⟩
  · show IsRangeIter _ _ _ _ _
    have e0 : ((0 : Nat) : Int) = 0 := rfl
    rw [← hz, e0, Int.sub_zero, Int.zero_mul, Int.add_zero]
    exact Heap.get?_push_size _ rfl
theorem range_at {a b c : Int} {t u v : Tok} {tk : Tok} (q : Ok K ρ σ w) (hsmall : Builtin.Range.small a b c = true) (hz : Builtin.Range.rangeSize a b c = (n : Int)) {f : Nat → Int} (hf : ∀ i : Nat, a + (i : Int) * c = f i) :
    wpAny K.C.M K.A (pyIter (.ref w.s.heap.objs.size)) (IterO K.C K.A target Nl ((List.range n).map fun i => .int (f i)) w σ) E { w.s with heap := w.s.heap.push { cls := .type "range", data := .fields #[.int a t, .int b u, .int c v] }, toks := tk } := by
  have hr : IsRange (w.s.heap.push { cls := .type "range", data := .fields #[.int a t, .int b u, .int c v] }) w.s.heap.objs.size a b c t u v := IsRange.new ..
  have g := grown (h := w.s.heap.push { cls := .type "range", data := .fields #[.int a t, .int b u, .int c v] }) q.I tk fun b' o e => Heap.get?_push_of_some _ e
  revert g
  generalize ({ w.s with heap := w.s.heap.push { cls := .type "range", data := .fields #[.int a t, .int b u, .int c v] }, toks := tk } : Shared) = s2
  rintro ⟨w2, x2, I2, e2, _⟩
  exact wpAny_mono (iter_rangeO q.o.room.handled I2 (e2 ▸ hr) hsmall hz hf) (fun u0 u0 o => o.after q.I x2) fun u0 u0 e => e
theorem size1 {a : Int} : Builtin.Range.rangeSize a (a + n) 1 = (n : Int) := by
  unfold Builtin.Range.rangeSize
  simp only [gt_iff_lt]
  rw [if_pos (by decide)]
  split
  · rw [Int.ediv_one]; omega
  · omega
theorem small1 {a : Int} (h : 0 ≤ a) (h1 : a + n ≤ 1000000000000000000) : Builtin.Range.small a (a + n) 1 = true := by
  unfold Builtin.Range.small
  rw [size1]
  simp only [Builtin.Range.rangeFitsLong, Bool.and_eq_true, Bool.or_eq_true, decide_eq_true_eq, beq_iff_eq, gt_iff_lt, if_pos (show (0 : Int) < 1 by decide)]
  omega
theorem TI_range1 (hb : Bi K.C x (.type "range")) (hk : K.fd.glob x = true) (hu : unstarred args = true) (hl : TA K ρ args pos σ [.int (n : Int)] σ') (hz : n ≤ 1000000000) : TI K ρ (.Call (.Name x p) args [] pos) target σ ((List.range n).map fun (i : Nat) => .int i) σ' := fun u0 u0 q =>
  wpAny_Call_Name_kw (builtin_ok q hk hb (callWith_go (first := []) rfl hu hl q fun vs w1 x1 p1 ⟨_, _, ⟨t, e⟩, e'⟩ => by
    subst e e'
    exact call_range_1 (wpAny_mono (range_at (a := 0) (c := 1) p1 (by have := small1 (n := n) (Int.le_refl 0) (by omega); rwa [Int.zero_add] at this) (by have := size1 (n := n) (a := 0); rwa [Int.zero_add] at this) (fun i => by omega)) (fun u0 u0 o => o.after q.I x1) fun u0 u0 e => e)))
theorem TI_range2 {a : Nat} (hb : Bi K.C x (.type "range")) (hk : K.fd.glob x = true) (hu : unstarred args = true) (hl : TA K ρ args pos σ [.int (a : Int), .int ((a : Int) + n)] σ') (hz : a + n ≤ 1000000000) : TI K ρ (.Call (.Name x p) args [] pos) target σ ((List.range n).map fun (i : Nat) => .int ((a : Int) + i)) σ' := fun u0 u0 q =>
  wpAny_Call_Name_kw (builtin_ok q hk hb (callWith_go (first := []) rfl hu hl q fun vs w1 x1 p1 ⟨_, _, ⟨t, e⟩, _, _, ⟨u, e2⟩, e'⟩ => by
    subst e e2 e'
    exact call_range_2 (wpAny_mono (range_at (a := (a : Int)) (c := 1) p1 (small1 (Int.natCast_nonneg a) (by omega)) size1 (fun i => by omega)) (fun u0 u0 o => o.after q.I x1) fun u0 u0 e => e)))
theorem TI_range3 {a b c : Int} (hb : Bi K.C x (.type "range")) (hk : K.fd.glob x = true) (hu : unstarred args = true) (hl : TA K ρ args pos σ [.int a, .int b, .int c] σ') (hs : Builtin.Range.small a b c = true) (hc : 0 < c ∧ c < 100) (hz : Builtin.Range.rangeSize a b c = (n : Int)) {f : Nat → Int} (hf : ∀ i : Nat, a + (i : Int) * c = f i) : TI K ρ (.Call (.Name x p) args [] pos) target σ ((List.range n).map fun (i : Nat) => .int (f i)) σ' := fun u0 u0 q =>
  wpAny_Call_Name_kw (builtin_ok q hk hb (callWith_go (first := []) rfl hu hl q fun vs w1 x1 p1 ⟨_, _, ⟨t, e⟩, _, _, ⟨u, e2⟩, _, _, ⟨z, e3⟩, e'⟩ => by
    subst e e2 e3 e'
    exact call_range_3 (by omega) (wpAny_mono (range_at p1 hs hz hf) (fun u0 u0 o => o.after q.I x1) fun u0 u0 e => e) (.inl (noPy (by omega)))))
structure MeFacts (T : String) (name : Str) (id : String) : Prop where
  attrs : PlainAttrs T
  slot : Slot T name id
  ty : typeOf (.builtin id) = pure (.type "method_descriptor")
inductive HasT (w : W) (T : String) : Value → Prop
  | str {x : Str} {t : Tok} (h : T = "str") : HasT w T (.str x t)
  | ref {a : Addr} {o : Obj} (z : w.s.heap.get? a = some o) (c : o.cls = .type T) (d : o.dict = none) : HasT w T (.ref a)
theorem HasT.is {T : String} (h : HasT w T v) : w.s.TypeIs v T ∧ ∀ p, v = .ref p → ∃ ob, w.s.heap.get? p = some ob ∧ ob.dict = none := by
  cases h with
  | str e => subst e; exact ⟨typeIs_str _ _ _, fun u0 e => nomatch e⟩
  | ref z c d => exact ⟨⟨_, z, c⟩, fun p e => by cases e; exact ⟨_, z, d⟩⟩
theorem all_plain : ∀ {args : List Expr} {env : Env} {pos : Pos}, unstarred args = true → (backTo pos (starEach args env)).all (fun x => !x.1) = true := fun {args env pos} h => by
  have := noStar (env := env) (pos := pos) h
  rw [List.any_eq_false] at this
  exact List.all_eq_true.mpr fun x hx => by rw [(Bool.not_eq_true _).mp (this x hx)]; rfl
theorem meth_go {T : String} {nm : Str} {id : String} {apos : Pos} {a : D} {σ₂ : St} (M : MeFacts T nm id) (hT : ∀ {w v}, Inv K.C σ₁ w → Rep K.C w a v → HasT w T v) (ho : TE K ρ (eval o K.env) σ a σ₁) (hl : TA K ρ args pos σ₁ l σ₂) (q : Ok K ρ σ w) {Q : Value → Shared → Prop}
    (h : ∀ v vs w', Step NoF w w' → Ok K ρ σ₂ w' → Rep K.C w' a v → RepL K.C w' l vs → wpAny K.C.M K.A (call (.builtin id) (v :: vs)) Q E w'.s) (hf : (unstarred args && decide (args.length < 30) && (apos.endLine == pos.line)) = true := by rfl) (hb : attributeBase o nm K.env (eval o K.env) = eval o K.env := by rfl) :
    wpAny K.C.M K.A (eval (.Call (.Attribute o nm apos) args [] pos) K.env) Q E w.s := by
  rw [Bool.and_eq_true, Bool.and_eq_true] at hf
  refine wpAny_Call_method hb (by rw [all_plain hf.1.1]; exact hf.1.2) hf.2 M.attrs M.slot M.ty (ho.go q fun v w1 n1 => ?_)
  obtain ⟨t1, t2⟩ := (hT n1.p.I n1.r).is
  exact ⟨t1, t2, callWith_go (v := .builtin id) (first := [v]) rfl hf.1.1 hl n1.p fun vs w2 x2 p2 r2 => h v vs w2 (n1.x.trans x2) p2 (x2.rep n1.r) r2⟩
theorem TE_meth {T : String} {nm : Str} {id : String} {apos : Pos} {a d : D} {σ₂ : St} (M : MeFacts T nm id) (hT : ∀ {w v}, Inv K.C σ₁ w → Rep K.C w a v → HasT w T v) (ho : TE K ρ (eval o K.env) σ a σ₁) (hl : TA K ρ args pos σ₁ l σ₂)
    (h : ∀ {w v vs} {E : Value → Shared → Prop}, Ok K ρ σ₂ w → Rep K.C w a v → RepL K.C w l vs → wpAny K.C.M K.A (call (.builtin id) (v :: vs)) (Out K.C w σ' d) E w.s) (hf : (unstarred args && decide (args.length < 30) && (apos.endLine == pos.line)) = true := by rfl) (hb : attributeBase o nm K.env (eval o K.env) = eval o K.env := by rfl) :
    TE K ρ (eval (.Call (.Attribute o nm apos) args [] pos) K.env) σ d σ' := fun u0 u0 q => meth_go M hT ho hl q (fun v vs w' x p r r' => wpAny_mono (h p r r') (fun u0 u0 o => o.after x) fun u0 u0 e => e) hf hb
theorem has_str {x : Str} {C : Cx} {σ : St} {w : W} {v : Value} (_ : Inv C σ w) : Rep C w (.str x) v → HasT w "str" v := fun ⟨_, e⟩ => e ▸ .str rfl
theorem has_lst {a : D} (i : IsL σ a l) {C : Cx} {w : W} {v : Value} (I : Inv C σ w) (r : Rep C w a v) : HasT w "list" v := by obtain ⟨u1, u2, u3, u4, z, u5⟩ := i.at I r; exact .ref z.is rfl rfl
theorem has_tup {C : Cx} {w : W} {v : Value} (_ : Inv C σ w) : Rep C w (.tup l) v → HasT w "tuple" v := fun ⟨_, _, _, z, _⟩ => .ref z.is rfl rfl
theorem isDict_has {C : Cx} {κ : Type} [DecidableEq κ] {w : World} {pr : Program} {knd : KeyKind pr w κ} {o : Obj} {kvs : List (κ × Value)} (d : o.IsDictOf knd kvs) : o.dict = none := let ⟨_, _, h1, _⟩ := d; h1.2.1
theorem has_ds {a : D} {l : List (Str × D)} (i : IsS σ a l) {C : Cx} {w : W} {v : Value} (I : Inv C σ w) (r : Rep C w a v) : HasT w "dict" v := by
  obtain ⟨u1, u2, o, kvs, ne, z, d, r⟩ := i.at I r
  obtain ⟨ob, e1, e2⟩ := (ds_mapOf z d).typeIs
  cases z.is.symm.trans e1
  exact .ref z.is e2 (isDict_has (C := C) d)
theorem has_di {a : D} {l : List (Int × D)} (i : IsI σ a l) {C : Cx} {w : W} {v : Value} (I : Inv C σ w) (r : Rep C w a v) : HasT w "dict" v := by
  obtain ⟨u1, u2, o, kvs, ne, z, d, r⟩ := i.at I r
  obtain ⟨ob, e1, e2⟩ := (di_mapOf z d).typeIs
  cases z.is.symm.trans e1
  exact .ref z.is e2 (isDict_has (C := C) d)
end
end Mine
end
section
open PySem PySem.W PyProof.Rows
namespace Mine
theorem mf_items : MeFacts "dict" "items" "dict.items" := ⟨PySem.F.plainAttrs_dict, PySem.F.slot_dict_items, PySem.F.type_dict_items⟩
theorem mf_values : MeFacts "dict" "values" "dict.values" := ⟨PySem.F.plainAttrs_dict, PySem.F.slot_dict_values, PySem.F.type_dict_values⟩
theorem entry_itemiter : entryFor table "dict_itemiterator.__iter__" = some Builtin.«dict_keyiterator.__iter__» := entryFor_alias (id' := "dict_keyiterator.__iter__") (by kernel_rfl) rfl (by decide +kernel) (by kernel_rfl)
section
variable {C : Cx} {A : Around} {w w' : W} {σ σ' : St} {a b : D} {E : Value → Shared → Prop} {l : List (Str × D)}
theorem priv_go {k : Addr} {o o' : Obj} {h : Heap} {t : Tok} (I : Inv C σ w) (z : At w (.mu k) k o) (e : h.get? k = some o') (hs : ∀ b o, b ≠ k → w.s.heap.get? b = some o → h.get? b = some o) :
    Step (· = k) w (w.put [] .fz h t []) ∧ Inv C σ (w.put [] .fz h t []) :=
  have hk : ∀ b o, w.tag b ≠ .mu k → w.s.heap.get? b = some o → h.get? b = some o := fun b o n e => hs b o (fun q => n (q ▸ z.tag)) e
  ⟨.priv hk, I.priv hk fun b u0 ⟨o, q⟩ => by
    by_cases n : b = k
    · exact ⟨o', n ▸ e⟩
    · exact ⟨o, hs b o n q⟩⟩
theorem rep_pair {h : Heap} {t : Tok} {a b : D} {x y : Value} {k : Addr} (I : Inv C σ w) (X : Step (· = k) w (w.put [] .fz h t [])) (e : h.get? w.s.heap.objs.size = some { cls := .type "tuple", data := .seq #[x, y] }) (rx : Rep C (w.put [] .fz h t []) a x) (ry : Rep C (w.put [] .fz h t []) b y) : Rep C (w.put [] .fz h t []) (.tup [a, b]) (.ref w.s.heap.objs.size) :=
  ⟨_, [x, y], 0, ⟨I.dead _ (Heap.fresh0 _), e⟩, x, [y], rx, y, [], ry, rfl⟩
inductive JI (C : Cx) (it : Addr) (l : List (Str × D)) (ds : List D) (w : W) : Prop
  | mk (i : Nat) (a : Addr) (kvs : List (Str × Value)) (ep : Nat) (ok ov : Value) (o od : Obj) (z : At w (.mu it) it o) (hi : IsItemIter w.s.heap it a i kvs.length ep ok ov) (zd : At w .fz a od) (dat : ∀ h : Heap, h.get? a = some od → h.DictAt (strKind C.prog C.w) a kvs ep) (r : RepS C w l kvs)
      (e : ds = (l.map fun p => D.tup [.str p.1, p.2]).drop i) (hz : i ≤ l.length) : JI C it l ds w
theorem itr_items {elts : List Expr} {kk : Nat} {pos : Pos} {it : Addr} (hA : A.handled = none) : Itr C A (.Tuple elts kk pos) (.ref it) it (JI C it l) Nl where
  stable := fun ⟨i, a, kvs, ep, ok, ov, o, od, z, hi, zd, dat, r, e, hz⟩ x nf => by
    have z' := x.mu it nf _ _ z
    have hi' := hi
    unfold IsItemIter at hi'
    cases z.is.symm.trans hi'
    exact ⟨i, a, kvs, ep, ok, ov, _, od, z', z'.is, x.keep _ _ zd, dat, RepS.mono x.toMono _ _ r, e, hz⟩
  item := by
    rintro ds σ w d ds' σ' E I ⟨i, a, kvs, ep, ok, ov, o, od, z, hi, zd, dat, r, e, hz⟩ nl
    cases nl
    have hd : (l.map fun p => D.tup [.str p.1, p.2])[i]? = some d := by rw [← List.head?_drop, ← e]; rfl
    have hds : ds' = (l.map fun p => D.tup [.str p.1, p.2]).drop (i + 1) := by rw [List.drop_add_one_eq_tail_drop, ← e]; rfl
    rw [List.getElem?_map] at hd
    obtain ⟨p, e3, rfl⟩ := Option.map_eq_some_iff.mp hd
    obtain ⟨u, e4, e5⟩ := repK_get (repS_K l ▸ r) e3
    refine wpAny_pyNext_items_item hi (dat _ zd.is) e4 fun key h' hkey hout htup hsz hk => ⟨_, rfl, wpAny_letOwnedTupleGo_items hout fun h'' hit2 hs2 => ?_⟩
    obtain ⟨X, I'⟩ := priv_go (t := w.s.toks) I z hit2 fun b o n e => (hs2.2 b n).trans (hk b o n e)
    have ne : w.s.heap.objs.size ≠ it := fun q => z.ne q.symm
    obtain ⟨t, rfl⟩ := Value.isStrOf_shape hkey
    exact ⟨_, X, I', ⟨i + 1, a, kvs, ep, _, _, _, od, ⟨z.tag, hit2⟩, hit2, X.keep _ _ zd, dat, RepS.mono X.toMono _ _ r, hds, get_lt e3⟩, rep_pair I X ((hs2.2 _ ne).trans htup) ⟨t, rfl⟩ (X.rep e5)⟩
  done := by
    rintro ds σ w ds' σ' E I ⟨i, a, kvs, ep, ok, ov, o, od, z, hi, zd, dat, r, e, hz⟩ nl
    cases nl
    have hl : l.length ≤ i := by have := List.drop_eq_nil_iff.mp e.symm; rwa [List.length_map] at this
    refine wpAny_pyNext_items_end hA hi (dat _ zd.is) (List.getElem?_eq_none_iff.mpr (by rw [repK_len (repS_K l ▸ r)]; exact hl)) fun h' he => ⟨rfl, w, h', w.s.toks, .refl _ _, I, fun b o n e => he b o (fun q => n it (.head _) (q ▸ z.tag)) e⟩
  self := fun ⟨i, a, kvs, ep, ok, ov, o, od, z, hi, _, _, _, _, _⟩ q => wpAny_pyIter_slot ⟨_, hi, rfl⟩ F.slot_dict_itemiterator_iter (wpAny_call_entry F.slot_dict_itemiterator_iter ⟨_, hi, rfl⟩ entry_itemiter (wpAny_pure ⟨_, rfl, "dict_itemiterator", _, ⟨_, hi, rfl⟩, F.slot_dict_itemiterator_next.lookup, q⟩) (F.args_dict_itemiterator_iter_1 _))
theorem dictAt_of {a : Addr} {o : Obj} {kvs : List (Str × Value)} {t : Tag} (z : At w t a o) (d : IsDs C o kvs) : ∃ ep, ∀ h : Heap, h.get? a = some o → h.DictAt (strKind C.prog C.w) a kvs ep := by
  obtain ⟨ep, o', es, e, r⟩ := (ds_mapOf z d).dictAt
  cases z.is.symm.trans e
  exact ⟨ep, fun h e => ⟨o, es, e, r⟩⟩
theorem iter_itemsO {elts : List Expr} {kk : Nat} {pos : Pos} {a V : Addr} (hA : A.handled = none) (I : Inv C σ w) (r : Rep C w (.ds l) (.ref a)) (hv : w.s.heap.IsItemsView V a) : wpAny C.M A (pyIter (.ref V)) (IterO C A (.Tuple elts kk pos) Nl (l.map fun p => .tup [.str p.1, p.2]) w σ) E w.s := by
  obtain ⟨u1, o, kvs, ne, z, d, r⟩ := r
  obtain ⟨ep, dat⟩ := dictAt_of z d
  refine wpAny_pyIter_items (knd := strKind C.prog C.w) hv (dat _ z.is) ?_
  obtain ⟨x2, I2⟩ := new_priv (o := { cls := .type "dict_itemiterator", data := .fields #[.none, .bool false, .ref a, .int 0 0, .int kvs.length 0, .int ep 0, .none, .none] }) (t := w.s.toks) I rfl
  have zk : At (w.put [w.s.heap.objs.size] (.mu w.s.heap.objs.size) (w.s.heap.push { cls := .type "dict_itemiterator", data := .fields #[.none, .bool false, .ref a, .int 0 0, .int kvs.length 0, .int ep 0, .none, .none] }) w.s.toks []) (.mu w.s.heap.objs.size) w.s.heap.objs.size _ := ⟨if_pos (.head _), Heap.get?_push_size _ rfl⟩
  exact ⟨_, _, _, x2, I2, itr_items hA, ⟨0, a, kvs, ep, .none, .none, _, o, zk, zk.is, x2.keep _ _ z, dat, RepS.mono x2.toMono _ _ r, rfl, Nat.zero_le _⟩, .of I (Heap.fresh0 _), ⟨_, zk⟩⟩
theorem iter_valuesO {target : Expr} {a V : Addr} (hA : A.handled = none) (I : Inv C σ w) (r : Rep C w (.ds l) (.ref a)) (hv : w.s.heap.IsValuesView V a) : wpAny C.M A (pyIter (.ref V)) (IterO C A target Nl (l.map (·.2)) w σ) E w.s := by
  obtain ⟨u1, o, kvs, ne, z, d, r⟩ := r
  obtain ⟨ep, dat⟩ := dictAt_of z d
  refine wpAny_pyIter_values (knd := strKind C.prog C.w) hv (dat _ z.is) (iterO_of I rfl (Walks.dictValues (knd := strKind C.prog C.w) hA _ a z.ne kvs ep) (by rw [List.length_map, repK_len (repS_K l ▸ r)]) (fun i s' v Q E st q => let ⟨⟨o, ho, hc, _⟩, _⟩ := st; go_of ho hc (by decide) q)
    (fun i h st => let ⟨⟨o, e, _⟩, _⟩ := st; ⟨o, e⟩) (aux := fun w => RepS C w l kvs) repS_mono (fun i d w v hd r' hv => ?_) r ⟨⟨_, Heap.get?_push_size _ rfl, rfl, rfl⟩, (dat _ z.is).push _⟩ fun b hb => (List.mem_cons.mp hb).imp id fun q => by rw [List.mem_singleton.mp q]; exact ⟨_, z⟩)
  obtain ⟨k', e1⟩ := hv
  rw [List.getElem?_map] at hd
  obtain ⟨p, e3, rfl⟩ := Option.map_eq_some_iff.mp hd
  obtain ⟨u, e4, e5⟩ := repK_get (repS_K l ▸ r') e3
  rw [e1] at e4; cases e4
  exact e5
end
section
variable {K : Ctx} {ρ : Rho} {σ σ' : St} {w : W} {o target : Expr} {apos pos cpos p : Pos} {l : List (Str × D)} {E : Value → Shared → Prop} {x : Str}
theorem view_go {id : String} {T : String} {Q : Value → Shared → Prop} (M : MeFacts "dict" nm id) (ho : TE K ρ (eval o K.env) σ (.ds l) σ') (q : Ok K ρ σ w)
    (hc : ∀ {p : Addr} {w : W} {Q : Value → Shared → Prop}, (p == sysModules) = false → (∃ kvs, w.s.heap.DictOf (strKind K.C.prog K.C.w) p kvs) → Q (.ref w.s.heap.objs.size) { w.s with heap := w.s.heap.push { cls := .type T, data := .fields #[.ref p] }, toks := w.s.toks } → wpAny K.C.M K.A (call (.builtin id) [.ref p]) Q E w.s)
    (hq : ∀ (p : Addr) (vw : Addr) w', Step NoF w w' → Ok K ρ σ' w' → Rep K.C w' (.ds l) (.ref p) → (∃ o, w'.s.heap.get? vw = some o ∧ o.cls = .type T ∧ o.data = .fields #[.ref p]) → Q (.ref vw) w'.s) (hf : (unstarred [] && decide (([] : List Expr).length < 30) && (apos.endLine == pos.line)) = true := by rfl) (hb : attributeBase o nm K.env (eval o K.env) = eval o K.env := by rfl) :
    wpAny K.C.M K.A (eval (.Call (.Attribute o nm apos) [] [] pos) K.env) Q E w.s :=
  meth_go M (has_ds (.z l)) ho (TL_nil (pos := pos)) q (fun v vs w1 x1 p1 r1 r2 => by
    cases r2
    obtain ⟨a, ob, kvs, ne, z, d, r⟩ := r1
    refine hc (w := w1) (ref_sys ne) ⟨kvs, ds_mapOf z d⟩ ?_
    have g := grown (h := w1.s.heap.push { cls := .type T, data := .fields #[.ref a] }) p1.I w1.s.toks fun b o e => Heap.get?_push_of_some _ e
    have hv : (w1.s.heap.push { cls := .type T, data := .fields #[.ref a] }).get? w1.s.heap.objs.size = some { cls := .type T, data := .fields #[.ref a] } := Heap.get?_push_size _ rfl
    revert g
    generalize ({ w1.s with heap := w1.s.heap.push { cls := .type T, data := .fields #[.ref a] }, toks := w1.s.toks } : Shared) = s2
    rintro ⟨w2, x2, I2, e2, _⟩
    exact hq a _ w2 (x1.trans x2) (p1.next x2 I2) (x2.rep ⟨a, ob, kvs, ne, z, d, r⟩) ⟨_, e2 ▸ hv, rfl, rfl⟩) hf hb
theorem items_go {Q : Value → Shared → Prop} (ho : TE K ρ (eval o K.env) σ (.ds l) σ') (q : Ok K ρ σ w) (hq : ∀ (p vw : Addr) w', Step NoF w w' → Ok K ρ σ' w' → Rep K.C w' (.ds l) (.ref p) → w'.s.heap.IsItemsView vw p → Q (.ref vw) w'.s)
    (hf : (unstarred [] && decide (([] : List Expr).length < 30) && (apos.endLine == pos.line)) = true := by rfl) (hb : attributeBase o "items" K.env (eval o K.env) = eval o K.env := by rfl) : wpAny K.C.M K.A (eval (.Call (.Attribute o "items" apos) [] [] pos) K.env) Q E w.s :=
  view_go (T := "dict_items") mf_items ho q (fun ns hd hQ => call_meetsIn PySem.F.slot_dict_items hd.choose_spec.typeIs PySem.F.entry_dict_items (PySem.F.args_dict_items_1 _) (meets_dict_items (strKind K.C.prog K.C.w) _ ns) ⟨hd, hQ⟩) hq hf hb
theorem TI_items {elts : List Expr} {kk : Nat} {tp : Pos} (ho : TE K ρ (eval o K.env) σ (.ds l) σ') (hf : (unstarred [] && decide (([] : List Expr).length < 30) && (apos.endLine == pos.line)) = true := by rfl) (hb : attributeBase o "items" K.env (eval o K.env) = eval o K.env := by rfl) :
    TI K ρ (.Call (.Attribute o "items" apos) [] [] pos) (.Tuple elts kk tp) σ (l.map fun p => .tup [.str p.1, p.2]) σ' := fun u0 u0 q =>
  items_go ho q (fun p vw w1 x1 p1 r1 hv => wpAny_mono (iter_itemsO p1.o.room.handled p1.I r1 hv) (fun u0 u0 o => o.after q.I x1) fun u0 u0 e => e) hf hb
theorem TI_values (ho : TE K ρ (eval o K.env) σ (.ds l) σ') (hf : (unstarred [] && decide (([] : List Expr).length < 30) && (apos.endLine == pos.line)) = true := by rfl) (hb : attributeBase o "values" K.env (eval o K.env) = eval o K.env := by rfl) :
    TI K ρ (.Call (.Attribute o "values" apos) [] [] pos) target σ (l.map (·.2)) σ' := fun u0 u0 q =>
  view_go (T := "dict_values") mf_values ho q (fun ns hd hQ => call_meetsIn PySem.F.slot_dict_values hd.choose_spec.typeIs PySem.F.entry_dict_values (PySem.F.args_dict_values_1 _) (meets_dict_values (strKind K.C.prog K.C.w) _ ns) ⟨hd, hQ⟩)
    (fun p vw w1 x1 p1 r1 hv => wpAny_mono (iter_valuesO p1.o.room.handled p1.I r1 hv) (fun u0 u0 o => o.after q.I x1) fun u0 u0 e => e) hf hb
theorem repL_of {C : Cx} {w : W} {l : List D} : ∀ {vs : List Value}, vs.length = l.length → (∀ (j : Nat) (d : D), l[j]? = some d → ∃ v, vs[j]? = some v ∧ Rep C w d v) → RepL C w l vs := by
  induction l with
  | nil => exact fun {vs} e _ => List.length_eq_zero_iff.mp e
  | cons d l ih =>
    intro vs e f
    cases vs with
    | nil => cases e
    | cons v vs =>
      obtain ⟨v', e1, e2⟩ := f 0 d rfl
      cases e1
      exact ⟨v, vs, e2, ih (Nat.succ.inj e) fun j d h => f (j + 1) d h⟩
theorem callWith_one {v : Value} {e : Expr} (hv : plainVal v = true) (hu : unstarred [e] = true) {Q : Value → Shared → Prop} {s : Shared} (h : wpAny K.C.M K.A (eval e K.env) (fun u s' => wpAny K.C.M K.A (call v [u]) Q E s') E s) : wpAny K.C.M K.A (callWith pos v [] (backTo pos (starEach [e] K.env)) []) Q E s := by
  have key : ∀ {f : Value} {Q' : Args → Shared → Prop}, wpAny K.C.M K.A (eval e K.env) (fun u s' => Q' ⟨[u], []⟩ s') E s → wpAny K.C.M K.A (evalArgs f true (backTo pos (starEach [e] K.env)) []) Q' E s := fun h =>
    evalArgs_spliced (noStar hu) (wpAny_items_cons (e := e) (rest := []) (pos := pos) (wpAny_mono h (fun u s' q => wpAny_items_nil (pos := pos) q) fun u0 u0 e => e) (starEach_cons hu))
  cases v <;> first | (cases hv; done) | skip
  · exact PyProof.Rows.callWith_type (noStar hu) (key h)
  · exact Calls.callWith_builtin (noStar hu) (key h)
theorem TE_listItems (hb : Bi K.C x (.type "list")) (hk : K.fd.glob x = true) (ho : TE K ρ (eval o K.env) σ (.ds l) σ') (hz : l.length ≤ 1000000) (hf : (unstarred [] && decide (([] : List Expr).length < 30) && (apos.endLine == pos.line)) = true := by rfl) (hb' : attributeBase o "items" K.env (eval o K.env) = eval o K.env := by rfl) :
    TE K ρ (eval (.Call (.Name x p) [.Call (.Attribute o "items" apos) [] [] pos] [] cpos) K.env) σ (.lst (l.map fun p => .tup [.str p.1, p.2])) σ' := fun u0 u0 q => by
  refine wpAny_Call_Name_kw (builtin_ok q hk hb (callWith_one rfl rfl (items_go ho q (fun p vw w1 x1 p1 r1 hv => ?_) hf hb')))
  obtain ⟨u1, ob, kvs, ne, z, d, r⟩ := r1
  obtain ⟨ep, dat⟩ := dictAt_of z d
  have hzl := repK_len (repS_K l ▸ r)
  refine kdx_call p1.o.room.handled hv (dat _ z.is) (by rw [sizeLine_is, hzl]; omega) fun h' tk acc c as hk hS hl hG hacc => ?_
  have x2 : Step NoF w1 (w1.put [] .fz h' tk []) := .grow hk
  have df : ∀ b, w1.s.heap.objs.size ≤ b → w1.tag b = .fz := fun b hb => p1.I.dead b (dead_of fun ⟨o, e⟩ => Nat.not_lt.mpr hb (Heap.lt_size e))
  refine ⟨_, x1.trans x2, p1.I.grow hk, ⟨_, acc.toList, c, ⟨df _ (Nat.le_refl _), hS⟩, ?_⟩⟩
  rw [hacc]
  refine repL_of (by rw [List.length_map, List.length_map, hl, hzl]) fun j d hj => ?_
  rw [List.getElem?_map] at hj
  obtain ⟨q, e3, rfl⟩ := Option.map_eq_some_iff.mp hj
  obtain ⟨u, e4, e5⟩ := repK_get (repS_K l ▸ r) e3
  have hj' : j < as.length := by rw [hl]; exact get_lt e4
  obtain ⟨key, kk, y, f1, f2, f3⟩ := hG.pairs j _ (List.getElem?_eq_getElem hj')
  rw [e4] at f1; cases f1
  obtain ⟨t, rfl⟩ := Value.isStrOf_shape f2
  exact ⟨.ref as[j], by rw [List.getElem?_map, List.getElem?_eq_getElem hj']; rfl, _, [_, _], 0, ⟨df _ (Nat.le_of_lt (hG.above _ (List.getElem_mem hj'))), f3⟩, _, _, ⟨t, rfl⟩, _, _, x2.rep e5, rfl⟩
end
end Mine
end
section
open PySem PySem.W PyProof.Rows
namespace Mine
section
variable {prog : Program} {w : World} {A : Around} {E : Value → Shared → Prop} {s : Shared}
theorem nextOf_tuple_item {it t : Addr} {i : Nat} {items} {x : Value} {Q : Value → Shared → Prop} (hit : s.heap.IsTupleIter it t i)
    (ht : s.heap.IsTuple t items) (hx : items[i]? = some x)
    (hQ : ∀ h', h'.IsTupleIter it t (i + 1) → Heap.SameBut it s.heap h' → Q x { s with heap := h' }) :
    wpAny (model prog w) A (Builtin.SmallTypes.nextOf (.ref it)) Q E s := by
  obtain ⟨o, ho, hc, hd⟩ := id hit
  obtain ⟨ol, hol, u1, nl, hdl⟩ := ht
  unfold Builtin.SmallTypes.nextOf
  refine wpAny_bind (wpAny_callSpecial?_slot (name := Str.ofString "__next__") hit.typeIs F.slot_tuple_iterator_next
    (wpAny_call_entry F.slot_tuple_iterator_next hit.typeIs F.entry_tuple_iterator_next ?_ (F.args_tuple_iterator_next_1 _)))
  show wpAny _ _ (field (.ref it) 0 >>= _) _ _ s
  refine wpAny_bind (wpAny_field ho hd (x := .ref t) rfl ?_)
  show wpAny _ _ (if (Value.ref t == Value.none) = true then _ else _) _ _ s
  rw [if_neg (show ¬ ((Value.ref t == Value.none) = true) from Bool.false_ne_true)]
  show wpAny _ _ (field (.ref it) 1 >>= _) _ _ s
  refine wpAny_bind (wpAny_field ho hd (x := .int i 0) rfl ?_)
  show wpAny _ _ (seqItems? (.ref t) >>= _) _ _ s
  refine wpAny_bind (wpAny_seqItems hol hdl ?_)
  simp only [Int.toNat_natCast, hx]
  refine wpAny_bind (wpAny_setField ho hd (by simp) (wpAny_pure ⟨x, rfl, wpAny_pure (hQ _ ?_ (Heap.SameBut.update ..))⟩))
  exact ⟨_, Heap.get?_update_self _ ho (Obj.isFreed_of_fields (Obj.data_mapFields hd _)), (Obj.cls_mapFields ..).trans hc, by
    rw [Obj.data_mapFields hd]; simp [rawInt]⟩
theorem nextOf_tuple_end {it t : Addr} {i : Nat} {items} {Q : Value → Shared → Prop} (hh : A.handled = none)
    (hit : s.heap.IsTupleIter it t i) (ht : s.heap.IsTuple t items) (hx : items[i]? = none)
    (hE : ∀ h' e, Heap.ExtBut it s.heap h' → (∃ o, h'.get? e = some o ∧ o.cls = .type "StopIteration") → E (.ref e) { s with heap := h' }) :
    wpAny (model prog w) A (Builtin.SmallTypes.nextOf (.ref it)) Q E s := by
  obtain ⟨o, ho, hc, hd⟩ := id hit
  obtain ⟨ol, hol, u1, nl, hdl⟩ := ht
  unfold Builtin.SmallTypes.nextOf
  refine wpAny_bind (wpAny_callSpecial?_slot (name := Str.ofString "__next__") hit.typeIs F.slot_tuple_iterator_next
    (wpAny_call_entry F.slot_tuple_iterator_next hit.typeIs F.entry_tuple_iterator_next ?_ (F.args_tuple_iterator_next_1 _)))
  show wpAny _ _ (field (.ref it) 0 >>= _) _ _ s
  refine wpAny_bind (wpAny_field ho hd (x := .ref t) rfl ?_)
  show wpAny _ _ (if (Value.ref t == Value.none) = true then _ else _) _ _ s
  rw [if_neg (show ¬ ((Value.ref t == Value.none) = true) from Bool.false_ne_true)]
  show wpAny _ _ (field (.ref it) 1 >>= _) _ _ s
  refine wpAny_bind (wpAny_field ho hd (x := .int i 0) rfl ?_)
  show wpAny _ _ (seqItems? (.ref t) >>= _) _ _ s
  refine wpAny_bind (wpAny_seqItems hol hdl ?_)
  simp only [Int.toNat_natCast, hx]
  refine wpAny_bind (wpAny_rule (wpAny_bind (wpAny_setField ho hd (by simp) ?_)))
  show wpAny _ _ (newExc (.type "StopIteration") [] >>= _) _ _ _
  refine wpAny_bind ?_
  simp only [newExc, newTuple]
  refine wpAny_bind (wpAny_newObj_type ?_ (by size_fits))
  refine wpAny_bind (m := firstArgMember _ _) (wpAny_of_eq (a := Value.none) (by first | rfl | (simp only [firstArgMember]; rfl)) ?_)
  refine wpAny_newObj_type ?_ (by size_fits)
  simp only [raiseNew]
  refine wpAny_bind (wpAny_handled ?_)
  first | rw [show A.in1.handled = none from hh] | rw [hh]
  refine wpAny_bind (wpAny_pure (wpAny_throw ?_))
  exact hE _ _ (((Heap.SameBut.update ..).extBut.push _).push _) ⟨_, Heap.get?_push_size _ rfl, rfl⟩
theorem Draws_tuple (hh : A.handled = none) (it l : Addr) (hne : l ≠ it) (items : Array Value) :
    Draws prog w A it [it, l] items.size (fun i v => items[i]? = some v) (fun i h => h.IsTupleIter it l i ∧ h.IsTuple l items) where
  live := fun u0 u0 st => let ⟨o, ho, _⟩ := st.1; ⟨o, ho⟩
  frame := fun u0 u0 u0 st hk => by
    obtain ⟨⟨o, h1, h2⟩, ⟨p, h3, h4⟩⟩ := st
    exact ⟨⟨o, hk it (by simp) o h1, h2⟩, ⟨p, hk l (by simp) p h3, h4⟩⟩
  item := fun i s Q E hi st hQ => by
    refine nextOf_tuple_item st.1 st.2 (x := items[i]) (by simp [hi]) fun h' hit' hs' => ?_
    exact hQ _ h' s.toks (by simp [hi]) ⟨hit', st.2.extBut hs'.extBut hne⟩ hs'
  done := fun s Q E st hE => nextOf_tuple_end hh st.1 st.2 (by simp) hE
theorem meets_enumerate_newT (l : Addr) (items : Array Value) (n : Nat) (dct : Option Addr) (sl : Array (Option Value)) :
    Meets (Builtin.«enumerate.__new__» ⟨[.type "enumerate", .ref l], []⟩) (fun u0 R s => s.heap.get? l = some { cls := .type "tuple", dict := dct, data := .seq items n, slots := sl } ∧
      R (.ok (.ret (.ref (s.heap.push { cls := .type "tuple_iterator", data := .fields #[.ref l, .int 0 0] }).objs.size)))
        { s with heap := (s.heap.push { cls := .type "tuple_iterator", data := .fields #[.ref l, .int 0 0] }).push { cls := .type "enumerate", data := .fields #[.none, .bool false, .ref s.heap.objs.size, rawInt 0, .none, .none] } }) :=
  .of_wp fun prog w A R s h => by
    obtain ⟨hp, g, d, tk, os⟩ := s; obtain ⟨hl, h⟩ := h
    have hsub := sub_enumerate
    have hL : Heap.IsTuple (Shared.heap ⟨hp, g, d, tk, os⟩) l items := ⟨_, hl, rfl, n, rfl⟩
    wp_walk using AutoSeq1.wpAny_loadPart' hl
    refine wpAny_stack_any fun st => wpAny_pure ?_
    split
    · rename_i c _ _ _ _ _
      cases (c == Value.type "enumerate")
      · wp_walk using AutoSeq1.wpAny_loadPart' hl, wpAny_pyIter_tuple hL
        exact ⟨_, rfl, h⟩
      · wp_walk using AutoSeq1.wpAny_loadPart' hl, wpAny_pyIter_tuple hL
        exact ⟨_, rfl, h⟩
    · wp_walk using AutoSeq1.wpAny_loadPart' hl, wpAny_pyIter_tuple hL
      exact ⟨_, rfl, h⟩
theorem call_enumerate_tuple {l : Addr} {items : Array Value} {Q : Value → Shared → Prop} (hL : s.heap.IsTuple l items)
    (h : ∀ h', IsEnum h' (s.heap.objs.size + 1) s.heap.objs.size 0 .none → h'.IsTupleIter s.heap.objs.size l 0 → h'.objs.size = s.heap.objs.size + 2 →
      (∀ b o, s.heap.get? b = some o → h'.get? b = some o) → Q (.ref (s.heap.objs.size + 1)) { s with heap := h' }) :
    wpAny (model prog w) A (call (.type "enumerate") [.ref l]) Q E s := by
  obtain ⟨⟨c, dct, dt, sl⟩, hl, hc, n, hd⟩ := hL
  replace hc : c = .type "tuple" := hc
  replace hd : dt = .seq items n := hd
  subst hc hd
  refine callType_new F.called_enumerate (by decide) (F.typeCall_enumerate_1 _) (F.newCall_enumerate_1 _) (fun obj => F.args_object_init_2 obj _) F.entry_enumerate_new
    (meets_enumerate_newT l items n dct sl) ⟨hl, ?_⟩
  have hz : (s.heap.push { cls := .type "tuple_iterator", data := .fields #[.ref l, .int 0 0] }).objs.size = s.heap.objs.size + 1 := Heap.size_push ..
  show _ ∧ _
  rw [hz]
  have he : IsEnum ((s.heap.push { cls := .type "tuple_iterator", data := .fields #[.ref l, .int 0 0] }).push
      { cls := .type "enumerate", data := .fields #[.none, .bool false, .ref s.heap.objs.size, rawInt 0, .none, .none] }) (s.heap.objs.size + 1) s.heap.objs.size 0 .none := by
    have := Heap.get?_push_size (s.heap.push { cls := .type "tuple_iterator", data := .fields #[.ref l, .int 0 0] })
      (o := { cls := .type "enumerate", data := .fields #[.none, .bool false, .ref s.heap.objs.size, rawInt 0, .none, .none] }) rfl
    rw [hz] at this; exact this
  refine ⟨⟨_, he, rfl⟩, h _ he ⟨_, Heap.get?_push_of_some _ (Heap.get?_push_size _ rfl), rfl, rfl⟩ (by rw [Heap.size_push, hz]) fun b o x => Heap.get?_push_of_some _ (Heap.get?_push_of_some _ x)⟩
end
noncomputable def enumD (l : List D) : List D := l.zipIdx.map fun p => .tup [.int (p.2 : Int), p.1]
theorem enumD_map {α : Type} (f : α → D) (xs : List α) : enumD (xs.map f) = xs.zipIdx.map fun p => .tup [.int (p.2 : Int), f p.1] := by
  unfold enumD
  rw [List.zipIdx_map, List.map_map]; rfl
section
variable {C : Cx} {A : Around} {w w' : W} {σ σ' : St} {E : Value → Shared → Prop} {ds : List D} {n : Nat} {P : Nat → Value → Prop} {S0 : Nat → Heap → Prop} {aux : W → Prop} {fp : List Addr}
theorem enumD_get (l : List D) (i : Nat) : (enumD l)[i]? = (l[i]?).map fun d => .tup [.int (i : Int), d] := by
  unfold enumD
  rw [List.getElem?_map, List.getElem?_zipIdx, Option.map_map, Nat.zero_add]; rfl
theorem enumD_len (l : List D) : (enumD l).length = l.length := by
  unfold enumD
  rw [List.length_map, List.length_zipIdx]
inductive JE (e it : Addr) (fp : List Addr) (S0 : Nat → Heap → Prop) (aux : W → Prop) (ds l : List D) (w : W) : Prop
  | mk (i : Nat) (old : Value) (oe oi : Obj) (ze : At w (.mu e) e oe) (he : IsEnum w.s.heap e it i old) (zi : At w (.mu e) it oi) (st : S0 i w.s.heap) (a : aux w) (f : ∀ b ∈ fp, b = it ∨ ∃ o, At w .fz b o) (el : l = (enumD ds).drop i) (hz : i ≤ ds.length) : JE e it fp S0 aux ds l w
theorem itr_enum {elts : List Expr} {kk : Nat} {pos : Pos} {e it : Addr} (Dr : Draws C.prog C.w A.in1 it fp n P S0) (hne : e ≠ it) (hef : e ∉ fp) (hn : ds.length = n) (haux : ∀ w w', Mono w w' → aux w → aux w') (hP : ∀ i d w v, ds[i]? = some d → aux w → P i v → Rep C w d v) :
    Itr C A (.Tuple elts kk pos) (.ref e) e (JE e it fp S0 aux ds) Nl where
  stable := fun ⟨i, old, oe, oi, ze, he, zi, st, a, f, el, hz⟩ x nf => by
    have ze' := x.mu e nf _ _ ze
    have zi' := x.mu e nf _ _ zi
    have he' := he
    unfold IsEnum at he'
    cases ze.is.symm.trans he'
    exact ⟨i, old, _, oi, ze', ze'.is, zi', Dr.frame _ _ _ st fun b hb o q => (f b hb).elim (fun e => by subst e; cases zi.is.symm.trans q; exact zi'.is) fun ⟨o', z⟩ => by cases z.is.symm.trans q; exact (x.keep _ _ z).is, haux _ _ x.toMono a,
      fun b hb => (f b hb).imp id fun ⟨o, z⟩ => ⟨o, x.keep _ _ z⟩, el, hz⟩
  item := by
    rintro l σ w d l' σ' E I ⟨i, old, oe, oi, ze, he, zi, st, a, f, el, hz⟩ nl
    cases nl
    have hd : (enumD ds)[i]? = some d := by rw [← List.head?_drop, ← el]; rfl
    have hl : l' = (enumD ds).drop (i + 1) := by rw [List.drop_add_one_eq_tail_drop, ← el]; rfl
    rw [enumD_get] at hd
    obtain ⟨d', e3, rfl⟩ := Option.map_eq_some_iff.mp hd
    refine wpAny_pyNext_enum_itemD Dr he st (hn ▸ get_lt e3) hne hef fun x h' tk hPx hout hst htup hsz hk => ⟨_, rfl, wpAny_letOwnedTupleGo_enum hout fun h'' he2 hs2 => ?_⟩
    have hk' : ∀ b o, w.tag b ≠ .mu e → w.s.heap.get? b = some o → h''.get? b = some o := fun b o nt q => (hs2.2 b fun y => nt (y ▸ ze.tag)).trans (hk b o (fun y => nt (y ▸ ze.tag)) (fun y => nt (y ▸ zi.tag)) q)
    have hst2 : S0 (i + 1) h'' := Dr.frame _ _ _ hst fun b hb o y => (hs2.2 b fun q => hef (q ▸ hb)).trans y
    obtain ⟨oi', gi⟩ := Dr.live _ _ hst2
    have X : Step (· = e) w (w.put [] .fz h'' (tk + 1) []) := .priv hk'
    have ne2 : w.s.heap.objs.size ≠ e := fun q => ze.ne q.symm
    refine ⟨w.put [] .fz h'' (tk + 1) [], X, I.priv hk' fun b q ⟨o, y⟩ => ?_, ⟨i + 1, x, _, oi', ⟨ze.tag, he2⟩, he2, ⟨zi.tag, gi⟩, hst2, haux _ _ X.toMono a, fun b hb => (f b hb).imp id fun ⟨o, z⟩ => ⟨o, X.keep _ _ z⟩, hl, get_lt e3⟩, rep_pair I X ((hs2.2 _ ne2).trans htup) ⟨tk, rfl⟩ (hP i d' _ x e3 (haux _ _ X.toMono a) hPx)⟩
    by_cases q1 : b = e
    · exact ⟨_, q1 ▸ he2⟩
    · by_cases q2 : b = it
      · exact ⟨_, q2 ▸ gi⟩
      · exact ⟨o, (hs2.2 b q1).trans (hk b o q1 q2 y)⟩
  done := by
    rintro l σ w l' σ' E I ⟨i, old, oe, oi, ze, he, zi, st, a, f, el, hz⟩ nl
    cases nl
    have : i = n := hn ▸ Nat.le_antisymm hz (enumD_len ds ▸ List.drop_eq_nil_iff.mp el.symm)
    subst this
    exact wpAny_pyNext_enum_endD (prog := C.prog) (w := C.w) Dr he st fun h' hk => ⟨rfl, w, h', w.s.toks, .refl _ _, I, fun b o nt q => hk b o (fun y => nt e (.head _) (y ▸ zi.tag)) q⟩
  self := fun ⟨i, old, oe, oi, ze, he, _, _, _, _, _, _⟩ q => wpAny_pyIter_enum he q
theorem enum_start {elts : List Expr} {kk : Nat} {pos : Pos} {h' : Heap} (Dr : Draws C.prog C.w A.in1 w.s.heap.objs.size fp n P S0) (hn : ds.length = n) (haux : ∀ w w', Mono w w' → aux w → aux w') (hP : ∀ i d w v, ds[i]? = some d → aux w → P i v → Rep C w d v) (I : Inv C σ w) (h0 : aux w)
    (he : IsEnum h' (w.s.heap.objs.size + 1) w.s.heap.objs.size 0 .none) (hst : S0 0 h') (hk : ∀ b o, w.s.heap.get? b = some o → h'.get? b = some o) (hfp : ∀ b ∈ fp, b = w.s.heap.objs.size ∨ ∃ o, At w .fz b o) :
    wpAny C.M A (pyIter (.ref (w.s.heap.objs.size + 1))) (IterO C A (.Tuple elts kk pos) Nl (enumD ds) w σ) E { w.s with heap := h' } := by
  refine wpAny_pyIter_enum he ?_
  have f0 := Heap.fresh0 w.s.heap
  have f1 : w.s.heap.get? (w.s.heap.objs.size + 1) = none := dead_of fun ⟨o, q⟩ => Nat.not_succ_lt_self (Heap.lt_size q)
  obtain ⟨oi, gi⟩ := Dr.live _ _ hst
  generalize w.s.heap.objs.size = it at *
  have hne : it + 1 ≠ it := Nat.succ_ne_self it
  have hA : ∀ b ∈ [it + 1, it], w.s.heap.get? b = none := fun b m => (List.mem_cons.mp m).elim (fun q => q ▸ f1) fun m => List.mem_singleton.mp m ▸ f0
  have c : Chg NoX w (w.put [it + 1, it] (.mu (it + 1)) h' w.s.toks []) := .put fun t u0 b o z => ⟨fun m => z.alive.no (hA b m), hk b o z.is⟩
  have x := c.step (F := NoF) id fun u0 => id
  have te : (w.put [it + 1, it] (.mu (it + 1)) h' w.s.toks []).tag (it + 1) = .mu (it + 1) := if_pos (.head _)
  have I2 := I.put c id (fun u0 => id) (fun b m => (List.mem_cons.mp m).elim (fun q => ⟨_, q ▸ he⟩) fun m => ⟨_, List.mem_singleton.mp m ▸ gi⟩) (fun b ⟨o, e⟩ => ⟨o, hk b o e⟩) (fun b m q => nomatch (I.dead b (hA b m)).symm.trans q) (fun j e => by cases e; exact ⟨_, te, he⟩) fun u0 e => nomatch e
  exact ⟨w.put [it + 1, it] (.mu (it + 1)) h' w.s.toks [], it + 1, _, x, I2, itr_enum Dr hne (fun m => (hfp _ m).elim (fun q => hne q) fun ⟨o, z⟩ => z.alive.no f1) hn haux hP,
    ⟨0, .none, _, oi, ⟨te, he⟩, he, ⟨if_pos (.tail _ (.head _)), gi⟩, hst, haux _ _ x.toMono h0, fun b hb => (hfp b hb).imp id fun ⟨o, z⟩ => ⟨o, x.keep _ _ z⟩, rfl, Nat.zero_le _⟩, .of I f1, ⟨_, te, he⟩⟩
noncomputable def EnumOk (d : D) (ds : List D) : Prop := ∀ ⦃C : Cx⦄ ⦃A : Around⦄ ⦃σ : St⦄ ⦃w : W⦄ ⦃v : Value⦄ ⦃elts : List Expr⦄ ⦃kk : Nat⦄ ⦃pos : Pos⦄ ⦃E : Value → Shared → Prop⦄, A.handled = none → Inv C σ w → Rep C w d v →
  wpAny C.M A (call (.type "enumerate") [v]) (fun x s1 => wpAny C.M A (pyIter x) (IterO C A (.Tuple elts kk pos) Nl (enumD ds) w σ) E s1) E w.s
theorem enum_tup {l : List D} : EnumOk (.tup l) l := fun C A σ w v elts kk pos E hh I ⟨a, vs, n, z, r⟩ => call_enumerate_tuple (items := vs.toArray) ⟨_, z.is, rfl, n, rfl⟩ fun h' he hit hsz hk =>
  enum_start (Draws_tuple (show A.in1.handled = none from hh) _ a z.ne vs.toArray) (by rw [List.size_toArray, r.length]) (aux := fun w => RepL _ w l vs) repL_mono (fun i d w v hd r' hv => let ⟨_, e1, e2⟩ := r'.get hd; by cases e1.symm.trans (List.getElem?_toArray.symm.trans hv); exact e2) I r he ⟨hit, ⟨_, hk _ _ z.is, rfl, n, rfl⟩⟩ hk fun b hb => (List.mem_cons.mp hb).imp id fun q => by rw [List.mem_singleton.mp q]; exact ⟨_, z⟩
theorem enum_lst {l : List D} : EnumOk (.lst l) l := fun C A σ w v elts kk pos E hh I ⟨a, vs, n, z, r⟩ => call_enumerate_list (items := vs.toArray) ⟨_, z.is, rfl, n, rfl⟩ fun h' he hit hsz hk =>
  enum_start (Draws.list (show A.in1.handled = none from hh) _ a z.ne vs.toArray) (by rw [List.size_toArray, r.length]) (aux := fun w => RepL _ w l vs) repL_mono (fun i d w v hd r' hv => let ⟨_, e1, e2⟩ := r'.get hd; by cases e1.symm.trans (List.getElem?_toArray.symm.trans hv); exact e2) I r he ⟨hit, ⟨_, hk _ _ z.is, rfl, n, rfl⟩⟩ hk fun b hb => (List.mem_cons.mp hb).imp id fun q => by rw [List.mem_singleton.mp q]; exact ⟨_, z⟩
theorem enum_str {x : Str} : EnumOk (.str x) (signs x) := fun C A σ w v elts kk pos E hh I ⟨t, e⟩ => by
  subst e
  refine call_enumerate_str fun h' he hit hsz hk => ?_
  have hP : ∀ i d (w : W) v, (signs x)[i]? = some d → True → (∃ c u, x.cps[i]? = some c ∧ v = .str ⟨#[c]⟩ u) → Rep C w d v := fun i d w v hd u0 hv => by
    unfold signs at hd
    rw [List.getElem?_map] at hd
    obtain ⟨c, e, rfl⟩ := Option.map_eq_some_iff.mp hd
    obtain ⟨c', u, e', rfl⟩ := hv
    cases (Array.getElem?_toList.symm.trans e).symm.trans e'
    exact ⟨u, rfl⟩
  have len : (signs x).length = x.cps.size := List.length_map ..
  cases ha : x.cps.all (· < 128)
  · rw [show strIterType x = "str_iterator" by unfold strIterType; rw [ha]; rfl] at hit
    exact enum_start (Draws.strWide (show A.in1.handled = none from hh) _ x t) len (aux := fun u0 => True) (fun u0 u0 u0 h => h) hP I trivial he hit hk fun b hb => .inl (List.mem_singleton.mp hb)
  · rw [show strIterType x = "str_ascii_iterator" by unfold strIterType; rw [ha]; rfl] at hit
    exact enum_start (Draws.strAscii (show A.in1.handled = none from hh) _ x t) len (aux := fun u0 => True) (fun u0 u0 u0 h => h) hP I trivial he hit hk fun b hb => .inl (List.mem_singleton.mp hb)
theorem TI_enum {K : Ctx} {ρ : Rho} {x : Str} {p pos tp : Pos} {e : Expr} {elts : List Expr} {kk : Nat} {d : D} (hb : Bi K.C x (.type "enumerate")) (hk : K.fd.glob x = true) (he : TE K ρ (eval e K.env) σ d σ') (h : EnumOk d ds) (hu : unstarred [e] = true := by rfl) : TI K ρ (.Call (.Name x p) [e] [] pos) (.Tuple elts kk tp) σ (enumD ds) σ' := fun u0 u0 q =>
  wpAny_Call_Name_kw (builtin_ok q hk hb (callWith_go (first := []) rfl hu (TL_cons hu he TL_nil) q fun vs w1 x1 p1 ⟨v, _, r, e'⟩ => by
    cases e'
    exact wpAny_mono (h p1.o.room.handled p1.I r) (fun u s2 h => wpAny_mono h (fun u0 u0 o => o.after q.I x1) fun u0 u0 e => e) fun u0 u0 e => e))
end
end Mine
end
section
open PySem PySem.W PyProof.Rows
namespace Mine
noncomputable def leS (a b : Str) : Prop := a.cps.toList ≤ b.cps.toList
theorem leS_antisymm {a b : Str} (h1 : leS a b) (h2 : leS b a) : a = b := by
  have := List.le_antisymm h1 h2
  cases a; cases b
  exact congrArg Str.mk (Array.toList_inj.mp this)
theorem risingS_pairwise : ∀ (r : List Str) (x : Str), risingS x r = true → (x :: r).Pairwise leS
  | [], x, _ => List.pairwise_singleton _ _
  | y :: r, x, h => by
    have h : (if Spec.ltCps y.cps.toList x.cps.toList = true then false else risingS y r) = true := by unfold risingS at h; revert h; cases Spec.ltCps y.cps.toList x.cps.toList <;> exact id
    cases q : Spec.ltCps y.cps.toList x.cps.toList with
    | true => rw [q] at h; cases h
    | false =>
      rw [q] at h
      have ih := risingS_pairwise r y h
      have hxy : leS x y := by rw [ltCps_eq] at q; exact of_decide_eq_false q
      exact List.pairwise_cons.mpr ⟨fun z hz => (List.mem_cons.mp hz).elim (fun e => e ▸ hxy) fun e => List.le_trans hxy ((List.pairwise_cons.mp ih).1 z e), ih⟩
theorem sortedS_eq {ss ss' : List Str} (hp : ss'.Perm ss) (hs : sortedS ss' = true) (h : ss.Pairwise leS) : ss' = ss :=
  List.Perm.eq_of_pairwise (fun a b u0 u0 => leS_antisymm) (by cases ss' with
    | nil => exact .nil
    | cons x r => exact risingS_pairwise r x hs) h hp
section
variable {C : Cx} {A : Around} {w w' : W} {σ σ' : St} {a d : D} {l : List D} {v : Value} {vs : List Value} {E : Value → Shared → Prop} {n : Nat}
theorem bi_len (i : IsL σ a l) (hz : l.length ≤ 16777216) (I : Inv C σ w) : RepL C w [a] vs → wpAny C.M A (call (.builtin "len") vs) (Out C w σ (.int (l.length : Int))) E w.s := fun ⟨v, _, r, e⟩ => by
  subst e
  obtain ⟨u1, p, vs, k, z, r⟩ := i.at I r
  refine Calls.call_len_list (items := vs.toArray) ⟨_, z.is, rfl, k, rfl⟩ (by rw [List.size_toArray, r.length]; omega) ?_
  rw [List.size_toArray, r.length]
  exact out_int I _ _ _
theorem bi_len_tup (hz : l.length ≤ 16777216) (I : Inv C σ w) : RepL C w [.tup l] vs → wpAny C.M A (call (.builtin "len") vs) (Out C w σ (.int (l.length : Int))) E w.s := fun ⟨v, _, r, e⟩ => by
  subst e
  obtain ⟨p, vs, k, z, r⟩ := r
  refine PyProof.Rows.len_tuple (items := vs.toArray) ⟨_, z.is, rfl, k, rfl⟩ (by rw [List.size_toArray, r.length]; omega) ?_
  rw [List.size_toArray, r.length]
  exact out_int I _ _ _
theorem out_grown {h : Heap} {tk : Tok} (I : Inv C σ w) (hk : ∀ b o, w.s.heap.get? b = some o → h.get? b = some o) (r : Rep C (w.put [] .fz h tk []) d v) : Out C w σ d v { w.s with heap := h, toks := tk } := ⟨_, .grow hk, I.grow hk, r⟩
theorem ints_at {p : Addr} {k : Nat} {ns : List Int} (z : w.s.heap.get? p = some (seqObj "list" vs k)) (r : RepL C w (ns.map .int) vs) : ∃ xs, w.s.heap.IsList p (intItems xs) ∧ ns = xs.toList.map (·.1) := by
  have hi := repL_ints r
  obtain ⟨xs, hx⟩ := hi.allInts.items
  exact ⟨xs, hx ▸ ⟨_, z, rfl, k, rfl⟩, by rw [← nums_intItems, ← hx]; exact hi.numsOf.symm⟩
theorem bi_sum {ns : List Int} (i : IsL σ a (ns.map .int)) (hA : A.handled = none) (I : Inv C σ w) : RepL C w [a] vs → wpAny C.M A (call (.builtin "sum") vs) (Out C w σ (.int ns.sum)) E w.s := fun ⟨v, _, r, e⟩ => by
  subst e
  obtain ⟨u1, p, vs, k, z, r⟩ := i.at I r
  obtain ⟨xs, hl, e⟩ := ints_at z.is r
  refine sum_intListG hA hl fun h' tk t' hk => out_grown I hk ⟨t', ?_⟩
  rw [preSum_eq, e, List.take_of_length_le (by rw [List.length_map, Array.length_toList]; exact Nat.le_refl _)]
theorem bi_min {ns : List Int} {m : Int} (i : IsL σ a (ns.map .int)) (hm : m ∈ ns) (hle : ∀ x ∈ ns, m ≤ x) (hA : A.handled = none) (I : Inv C σ w) : RepL C w [a] vs → wpAny C.M A (call (.builtin "min") vs) (Out C w σ (.int m)) E w.s := fun ⟨v, _, r, e⟩ => by
  subst e
  obtain ⟨u1, p, vs, k, z, r⟩ := i.at I r
  obtain ⟨xs, hl, e⟩ := ints_at z.is r
  have len : ns.length = xs.size := by rw [e, List.length_map, Array.length_toList]
  have hsz : 0 < xs.size := len ▸ List.length_pos_of_mem hm
  refine min_intList hA hl hsz fun v h' tk hv hk => ?_
  obtain ⟨t, rfl⟩ := intItems_at hv
  obtain ⟨h1, h2⟩ := argBest_lt (numAt xs) (xs.size - 1)
  have nth : ∀ j, j ≤ xs.size - 1 → numAt xs j ∈ ns := fun j hj => by
    rw [numAt_eq, ← e, List.getD_eq_getElem?_getD, List.getElem?_eq_getElem (by omega : j < ns.length)]; exact List.getElem_mem _
  have : numAt xs (argBest (fun i j => decide (numAt xs i < numAt xs j)) (xs.size - 1)) = m := Int.le_antisymm (by
    obtain ⟨j, hj, rfl⟩ := List.getElem_of_mem hm
    have := h2 j (by omega)
    rwa [numAt_eq xs j, ← e, List.getD_eq_getElem?_getD, List.getElem?_eq_getElem hj] at this) (hle _ (nth _ h1))
  exact out_grown I hk ⟨t, by rw [this]⟩
theorem strsAre_of : ∀ {ts : List (Str × Tok)}, StrsAre (strValues ts) (ts.map (·.1))
  | [] => .nil
  | _ :: _ => .cons _ _ strsAre_of
theorem strsAre_rep : ∀ {vs : List Value} {ss : List Str}, StrsAre vs ss → RepL C w (ss.map .str) vs
  | _, _, .nil => rfl
  | _, _, .cons x t r => ⟨_, _, ⟨t, rfl⟩, strsAre_rep r⟩
theorem bi_sorted {ss ss' : List Str} (i : IsL σ a (ss.map .str)) (hp : ss'.Perm ss) (hs : ss'.Pairwise leS) (h64 : ss.length ≤ 63) (I : Inv C σ w) : RepL C w [a] vs → wpAny C.M A (call (.builtin "sorted") vs) (Out C w σ (.lst (ss'.map .str))) E w.s := fun ⟨v, _, r, e⟩ => by
  subst e
  obtain ⟨u1, p, vs, k, z, r⟩ := i.at I r
  have hl := r.length
  rw [List.length_map] at hl
  obtain ⟨ts, e1, e2⟩ := repL_strs r
  refine sorted_strs (vs := vs) ⟨_, z.is, rfl, k, rfl⟩ (ss := ss) (by rw [e2, ← e1]; exact strsAre_of) (by omega) fun out ss'' a1 a2 a3 => ?_
  cases sortedS_eq (a2.trans hp.symm) a3 hs
  obtain ⟨e', he⟩ := sortedAll_at w.s.heap vs out
  refine out_grown (tk := w.s.toks) I (fun b o q => sortedAll_old q) ⟨_, out.toList, e', ⟨I.dead _ (dead_of fun ⟨o, q⟩ => Nat.not_succ_lt_self (Heap.lt_size q)), ?_⟩, strsAre_rep a1⟩
  show _ = some ({ cls := .type "list", data := .seq out.toList.toArray e' } : Obj)
  rw [Array.toArray_toList]; exact he
theorem bi_int {b : Bool} (I : Inv C σ w) : RepL C w [.bool b] vs → wpAny C.M A (call (.type "int") vs) (Out C w σ (.int (if b then 1 else 0))) E w.s := fun ⟨_, _, e, e'⟩ => by cases e; cases e'; exact call_int_bool (out_int I _ _ _)
theorem bi_ord {c : Nat} (I : Inv C σ w) : RepL C w [.str ⟨#[c]⟩] vs → wpAny C.M A (call (.builtin "ord") vs) (Out C w σ (.int (c : Int))) E w.s := fun ⟨_, _, ⟨t, e⟩, e'⟩ => by cases e; cases e'; exact PyProof.Rows.ord_of_one rfl (out_int I _ _ _)
theorem bi_chr {c : Nat} (hc : c ≤ 1114111) (I : Inv C σ w) : RepL C w [.int (c : Int)] vs → wpAny C.M A (call (.builtin "chr") vs) (Out C w σ (.str ⟨#[c]⟩)) E w.s := fun ⟨_, _, ⟨t, e⟩, e'⟩ => by
  cases e; cases e'; exact PyProof.Rows.chr_of_range (by omega) (by omega) (out_str I _ _ _)
theorem bi_hex {i : Int} (hz : (baseText "0x" 16 i).length ≤ 16777216) (I : Inv C σ w) : RepL C w [.int i] vs → wpAny C.M A (call (.builtin "hex") vs) (Out C w σ (.str (baseText "0x" 16 i))) E w.s := fun ⟨_, _, ⟨t, e⟩, e'⟩ => by
  cases e; cases e'; exact P.hex_of_int (out_str I _ _ _) (by rw [sizeLine_is]; exact hz)
theorem out_new {o : Obj} {c : AO} {t : Tok} (I : Inv C σ w) (hf : o.isFreed = false) (ok : ∀ w', Mono w w' → At w' (.ob σ.length) w.s.heap.objs.size o → AOk C w' σ.length c w.s.heap.objs.size) :
    Out C w (σ ++ [c]) (.loc σ.length) (.ref w.s.heap.objs.size) { w.s with heap := w.s.heap.push o, toks := t } := by
  have f0 := Heap.fresh0 w.s.heap
  have hk : ∀ b o', w.s.heap.get? b = some o' → (w.s.heap.push o).get? b = some o' := fun b o' e => Heap.get?_push_of_some _ e
  have hg := Heap.get?_push_size w.s.heap hf
  generalize w.s.heap.objs.size = a at f0 hg ok ⊢
  have c1 : Chg NoX w (w.put [a] (.ob σ.length) (w.s.heap.push o) t [a]) := .put fun t u0 b o z => ⟨fun m => z.alive.no (List.mem_singleton.mp m ▸ f0), hk b o z.is⟩
  have x := c1.step (F := NoF) id fun u0 => id
  exact ⟨_, x, I.new c1 (fun b m => List.mem_singleton.mp m ▸ ⟨_, hg⟩) (fun b ⟨o, e⟩ => ⟨o, hk b o e⟩) (fun b m q => nomatch (I.dead b (List.mem_singleton.mp m ▸ f0)).symm.trans q) (ok _ x.toMono ⟨if_pos (.head _), hg⟩),
    a, by show (w.mn ++ [a])[σ.length]? = _; rw [← I.len, List.getElem?_append_right (Nat.le_refl _), Nat.sub_self]; rfl, rfl⟩
theorem bi_iter (I : Inv C σ w) : RepL C w [.lst l] vs → wpAny C.M A (call (.builtin "iter") vs) (Out C w (σ ++ [.it l]) (.loc σ.length)) E w.s := fun ⟨v, _, r, e⟩ => by
  subst e
  obtain ⟨p, vs, k, z, r⟩ := r
  refine Calls.call_function_entry (by decide +kernel) (by decide +kernel) kdk_entry_iter (kdk_args_iter _) ?_
  unfold Builtin.«iter»
  refine wpAny_bind (m := someArgs "iter" 1 2 _) (wpAny_of_eq (a := [Value.ref p]) (by first | rfl | kernel_rfl!) ?_)
  show wpAny _ _ (pyIter (.ref p) >>= _) _ _ _
  refine wpAny_bind (wpAny_pyIter_list (items := vs.toArray) ⟨_, z.is, rfl, k, rfl⟩ (wpAny_pure ⟨_, rfl, out_new (t := w.s.toks) (c := .it l) I rfl fun w' M z' => .on p vs k 0 z' (M.keep _ _ z) ?_⟩))
  rw [List.drop_zero]; exact RepL.mono M _ _ r
end
end Mine
end
section
open PySem PySem.W PyProof.Rows
namespace Mine
section
variable {prog : Program} {w : World} {A : Around} {E : Value → Shared → Prop} {s : Shared} {it li : Addr} {i : Nat}
theorem wp_stop {α : Type} {Q : α → Shared → Prop} (hh : A.handled = none) (h : ∀ h' e, (∀ b o, s.heap.get? b = some o → h'.get? b = some o) → (∃ o, h'.get? e = some o ∧ o.cls = .type "StopIteration") → E (.ref e) { s with heap := h' }) :
    wpAny (model prog w) A (Builtin.SmallTypes.stopIteration : Sem α) Q E s := by
  unfold Builtin.SmallTypes.stopIteration
  refine wpAny_bind ?_
  simp only [newExc, newTuple]
  refine wpAny_bind (wpAny_newObj_type ?_ (by size_fits))
  refine wpAny_bind (m := firstArgMember _ _) (wpAny_of_eq (a := Value.none) (by first | rfl | (simp only [firstArgMember]; rfl)) ?_)
  refine wpAny_newObj_type ?_ (by size_fits)
  simp only [raiseNew]
  refine wpAny_bind (wpAny_handled ?_)
  rw [hh]
  exact wpAny_bind (wpAny_pure (wpAny_throw (h _ _ (fun b o e => Heap.get?_push_of_some _ (Heap.get?_push_of_some _ e)) ⟨_, Heap.get?_push_size _ rfl, rfl⟩)))
theorem iterObj_step (li : Addr) (i : Nat) : Obj.mapFields (·.setIfInBounds 1 (rawInt ((i : Int) + 1))) (iterObj li i) = iterObj li (i + 1) := by
  simp [Obj.mapFields, rawInt]
theorem iterObj_end (li : Addr) (i : Nat) : Obj.mapFields (·.setIfInBounds 0 .none) (iterObj li i) = iterEnd i := by
  simp [Obj.mapFields]
theorem lit_special {items : Array Value} {x : Value} {n : Nat} {Q : Option Value → Shared → Prop} (hit : s.heap.get? it = some (iterObj li i)) (hl : s.heap.get? li = some { cls := .type "list", data := .seq items n }) (hx : items[i]? = some x)
    (hQ : ∀ h', h'.get? it = some (iterObj li (i + 1)) → Heap.SameBut it s.heap h' → Q (some x) { s with heap := h' }) : wpAny (model prog w) A (callSpecial? (.ref it) (Str.ofString "__next__")) Q E s := by
  have hT : s.TypeIs (.ref it) "list_iterator" := ⟨_, hit, rfl⟩
  refine wpAny_callSpecial?_slot (name := Str.ofString "__next__") hT PySem.slot_listiter_next
    (wpAny_call_entry PySem.slot_listiter_next hT PySem.entry_listiter_next ?_ (PySem.args_listiter_next _))
  show wpAny _ _ (field (.ref it) 0 >>= _) _ _ s
  refine wpAny_bind (wpAny_field hit rfl (x := .ref li) rfl ?_)
  show wpAny _ _ (if (Value.ref li == Value.none) = true then _ else _) _ _ s
  rw [if_neg (show ¬ ((Value.ref li == Value.none) = true) from Bool.false_ne_true)]
  show wpAny _ _ (field (.ref it) 1 >>= _) _ _ s
  refine wpAny_bind (wpAny_field hit rfl (x := .int i 0) rfl ?_)
  show wpAny _ _ (seqItems? (.ref li) >>= _) _ _ s
  refine wpAny_bind (wpAny_seqItems hl rfl ?_)
  simp only [Int.toNat_natCast, hx]
  refine wpAny_bind (wpAny_setField hit rfl (by simp) (wpAny_pure ⟨x, rfl, hQ _ ?_ (Heap.SameBut.update ..)⟩))
  rw [Heap.get?_update_self _ hit (by rw [iterObj_step]; rfl), iterObj_step]
theorem lit_end {items : Array Value} {n : Nat} {Q : Option Value → Shared → Prop} (hh : A.handled = none) (hit : s.heap.get? it = some (iterObj li i)) (hl : s.heap.get? li = some { cls := .type "list", data := .seq items n }) (hx : items[i]? = none)
    (hQ : ∀ h', h'.get? it = some (iterEnd i) → (∀ b o, b ≠ it → s.heap.get? b = some o → h'.get? b = some o) → Q none { s with heap := h' }) : wpAny (model prog w) A (pyNext (.ref it)) Q E s := by
  have hT : s.TypeIs (.ref it) "list_iterator" := ⟨_, hit, rfl⟩
  unfold pyNext
  refine wpAny_bind (wpAny_attempt (wpAny_callSpecial?_slot (name := Str.ofString "__next__") hT PySem.slot_listiter_next
    (wpAny_call_entry PySem.slot_listiter_next hT PySem.entry_listiter_next ?_ (PySem.args_listiter_next _))))
  show wpAny _ _ (field (.ref it) 0 >>= _) _ _ s
  refine wpAny_bind (wpAny_field hit rfl (x := .ref li) rfl ?_)
  show wpAny _ _ (if (Value.ref li == Value.none) = true then _ else _) _ _ s
  rw [if_neg (show ¬ ((Value.ref li == Value.none) = true) from Bool.false_ne_true)]
  show wpAny _ _ (field (.ref it) 1 >>= _) _ _ s
  refine wpAny_bind (wpAny_field hit rfl (x := .int i 0) rfl ?_)
  show wpAny _ _ (seqItems? (.ref li) >>= _) _ _ s
  refine wpAny_bind (wpAny_seqItems hl rfl ?_)
  simp only [Int.toNat_natCast, hx]
  refine wpAny_bind (wpAny_rule (wpAny_bind (wpAny_setField hit rfl (by simp) (wp_stop hh fun h' e hk hx => ?_))))
  obtain ⟨oe, hoe, hce⟩ := hx
  refine wpAny_bind (wpAny_isInstance (T := "StopIteration") (b := true) ⟨oe, hoe, hce⟩ isSubtype_stop (wpAny_pure (hQ _ (hk _ _ ?_) fun b o hb e => hk _ _ ((Heap.get?_update_other _ _ (Ne.symm hb)).trans e))))
  rw [Heap.get?_update_self _ hit (by rw [iterObj_end]; rfl), iterObj_end]
theorem lit_ended {Q : Option Value → Shared → Prop} (hh : A.handled = none) (hit : s.heap.get? it = some (iterEnd i))
    (hQ : ∀ h', (∀ b o, s.heap.get? b = some o → h'.get? b = some o) → Q none { s with heap := h' }) : wpAny (model prog w) A (pyNext (.ref it)) Q E s := by
  have hT : s.TypeIs (.ref it) "list_iterator" := ⟨_, hit, rfl⟩
  unfold pyNext
  refine wpAny_bind (wpAny_attempt (wpAny_callSpecial?_slot (name := Str.ofString "__next__") hT PySem.slot_listiter_next
    (wpAny_call_entry PySem.slot_listiter_next hT PySem.entry_listiter_next ?_ (PySem.args_listiter_next _))))
  show wpAny _ _ (field (.ref it) 0 >>= _) _ _ s
  refine wpAny_bind (wpAny_field hit rfl (x := .none) rfl ?_)
  show wpAny _ _ (if (Value.none == Value.none) = true then _ else _) _ _ s
  rw [if_pos (by decide)]
  refine wpAny_bind (wpAny_rule (wpAny_bind (wp_stop hh fun h' e hk hx => ?_)))
  obtain ⟨oe, hoe, hce⟩ := hx
  exact wpAny_bind (wpAny_isInstance (T := "StopIteration") (b := true) ⟨oe, hoe, hce⟩ isSubtype_stop (wpAny_pure (hQ _ hk)))
end
section
variable {C : Cx} {A : Around} {w w' : W} {σ σ' : St} {a d e : D} {l : List D} {v u : Value} {vs : List Value} {E : Value → Shared → Prop} {n : Nat}
theorem it_item (I : Inv C σ w) (hn : σ[n]? = some (.it (d :: l))) (r : Rep C w (.loc n) v) : ∃ a li vs k i x, v = .ref a ∧ w.s.heap.get? a = some (iterObj li i) ∧ w.s.heap.get? li = some (seqObj "list" vs k) ∧ vs.toArray[i]? = some x ∧
    ∀ h', h'.get? a = some (iterObj li (i + 1)) → Heap.SameBut a w.s.heap h' → Out C w (σ.set n (.it l)) d x { w.s with heap := h' } := by
  obtain ⟨a, em, q⟩ := ob_at I hn r
  cases q with
  | off _ _ q => cases q
  | on li vs k i z zl q =>
    have hq := q
    obtain ⟨x, rest, e2, rx, rr⟩ : ∃ x rest, vs.drop i = x :: rest ∧ Rep C w d x ∧ RepL C w l rest := by
      revert hq; generalize vs.drop i = vs'; rintro ⟨x, rest, a, b⟩; exact ⟨x, rest, rfl, a, b⟩
    refine ⟨a, li, vs, k, i, x, rfl, z.is, zl.is, by rw [List.getElem?_toArray, ← List.head?_drop, e2]; rfl, fun h' hg hs => ?_⟩
    have ne : li ≠ a := fun q => by have := zl.tag; rw [q, z.tag] at this; cases this
    exact (ob_upd (t := w.s.toks) (co := .it l) I z hg (fun b o hb e => (hs.2 b hb).trans e) fun M a' q => by
      cases em.symm.trans q
      exact .on li vs k (i + 1) ⟨z.tag, hg⟩ (M.keep _ _ zl) (by rw [List.drop_add_one_eq_tail_drop, e2]; exact RepL.mono M _ _ rr)).out rx
theorem bi_next1 (hn : σ[n]? = some (.it (d :: l))) (I : Inv C σ w) : RepL C w [.loc n] vs → wpAny C.M A (call (.builtin "next") vs) (Out C w (σ.set n (.it l)) d) E w.s := fun ⟨v, _, r, e'⟩ => by
  subst e'
  obtain ⟨a, li, vs, k, i, x, rfl, q1, q3, hx, fin⟩ := it_item I hn r
  refine Calls.call_function_entry (by decide +kernel) (by decide +kernel) kdk_entry_next (kdk_args_next _) ?_
  unfold Builtin.«next»
  refine wpAny_bind (m := someArgs "next" 1 2 _) (wpAny_of_eq (a := [Value.ref a]) (by first | rfl | kernel_rfl!) ?_)
  dsimp only
  refine wpAny_bind (wpAny_specialOf (name := Str.ofString "__next__") ⟨_, q1, rfl⟩ PySem.slot_listiter_next.lookup ?_)
  refine wpAny_ite_split (fun hab => absurd hab (by decide)) (fun u0 => ?_)
  exact wpAny_bind (lit_special q1 q3 hx fun h' a b => wpAny_pure ⟨_, rfl, fin h' a b⟩)
theorem bi_next2 (hn : σ[n]? = some (.it (d :: l))) (I : Inv C σ w) : RepL C w [.loc n, e] vs → wpAny C.M A (call (.builtin "next") vs) (Out C w (σ.set n (.it l)) d) E w.s := fun ⟨v, _, r, u, _, ru, e'⟩ => by
  subst e'
  obtain ⟨a, li, vs, k, i, x, rfl, q1, q3, hx, fin⟩ := it_item I hn r
  refine Calls.call_function_entry (by decide +kernel) (by decide +kernel) kdk_entry_next (kdk_args_next2 _ _) ?_
  unfold Builtin.«next»
  refine wpAny_bind (m := someArgs "next" 1 2 _) (wpAny_of_eq (a := [Value.ref a, u]) (by first | rfl | kernel_rfl!) ?_)
  dsimp only
  refine wpAny_bind (wpAny_specialOf (name := Str.ofString "__next__") ⟨_, q1, rfl⟩ PySem.slot_listiter_next.lookup ?_)
  refine wpAny_ite_split (fun hab => absurd hab (by decide)) (fun u0 => ?_)
  unfold pyNext
  exact wpAny_bind (wpAny_bind (wpAny_attempt (lit_special q1 q3 hx fun h' a b => wpAny_pure (wpAny_pure ⟨_, rfl, fin h' a b⟩))))
theorem it_done (hA : A.handled = none) (I : Inv C σ w) (hn : σ[n]? = some (.it [])) (r : Rep C w (.loc n) v) {Q : Option Value → Shared → Prop} (hq : ∀ w', Step NoF w w' → Inv C σ w' → Q none w'.s) : wpAny C.M A (pyNext v) Q E w.s := by
  obtain ⟨a, em, q⟩ := ob_at I hn r
  have hset : σ.set n (.it []) = σ := by
    obtain ⟨h1, h2⟩ := List.getElem?_eq_some_iff.mp hn
    rw [← h2]; exact List.set_getElem_self h1
  cases q with
  | on li vs k i z zl q =>
    have hx : vs.toArray[i]? = none := by
      rw [List.getElem?_toArray]; exact List.getElem?_eq_none_iff.mpr (List.drop_eq_nil_iff.mp q)
    refine lit_end hA z.is zl.is hx fun h' hg hk => ?_
    have u := ob_upd (t := w.s.toks) (co := .it []) I z hg hk fun M a' q => by cases em.symm.trans q; exact .off i ⟨z.tag, hg⟩ rfl
    revert u
    generalize ({ w.s with heap := h', toks := w.s.toks } : Shared) = s2
    rintro ⟨w2, x2, I2⟩
    exact hq w2 x2 (hset ▸ I2)
  | off i z _ => exact lit_ended hA z.is fun h' hk => hq (w.put [] .fz h' w.s.toks []) (.grow hk) (I.grow hk)
theorem it_type (I : Inv C σ w) (hn : σ[n]? = some (.it l)) (r : Rep C w (.loc n) v) : ∃ a, v = .ref a ∧ (∃ t o, At w t a o ∧ t ≠ .fz) ∧ w.s.TypeIs (.ref a) "list_iterator" := by
  obtain ⟨a, em, q⟩ := ob_at I hn r
  cases q with
  | on li vs k i z zl q => exact ⟨a, rfl, ⟨_, _, z, fun q => nomatch q⟩, ⟨_, z.is, rfl⟩⟩
  | off i z _ => exact ⟨a, rfl, ⟨_, _, z, fun q => nomatch q⟩, ⟨_, z.is, rfl⟩⟩
theorem bi_next0 (hn : σ[n]? = some (.it [])) (hA : A.handled = none) (I : Inv C σ w) : RepL C w [.loc n, e] vs → wpAny C.M A (call (.builtin "next") vs) (Out C w σ e) E w.s := fun ⟨v, _, r, u, _, ru, e'⟩ => by
  subst e'
  obtain ⟨a, rfl, u1, hT⟩ := it_type I hn r
  refine Calls.call_function_entry (by decide +kernel) (by decide +kernel) kdk_entry_next (kdk_args_next2 _ _) ?_
  unfold Builtin.«next»
  refine wpAny_bind (m := someArgs "next" 1 2 _) (wpAny_of_eq (a := [Value.ref a, u]) (by first | rfl | kernel_rfl!) ?_)
  dsimp only
  refine wpAny_bind (wpAny_specialOf (name := Str.ofString "__next__") hT PySem.slot_listiter_next.lookup ?_)
  refine wpAny_ite_split (fun hab => absurd hab (by decide)) (fun u0 => ?_)
  exact wpAny_bind (it_done (A := A.in1) hA I hn r fun w' x I' => wpAny_pure ⟨_, rfl, w', x, I', x.rep ru⟩)
theorem bi_listIt (hn : σ[n]? = some (.it [])) (hA : A.handled = none) (I : Inv C σ w) : RepL C w [.loc n] vs → wpAny C.M A (call (.type "list") vs) (Out C w σ (.lst [])) E w.s := fun ⟨v, _, r, e'⟩ => by
  subst e'
  obtain ⟨it, rfl, ⟨t, oi, zi, nt⟩, hT0⟩ := it_type I hn r
  refine callType_codes (Q₁ := fun obj s₁ => obj = .ref w.s.heap.objs.size ∧ s₁ = { w.s with heap := w.s.heap.push { cls := .type "list", data := .seq #[] } }) PySem.F.called_list (PySem.F.typeCall_list_1 _) PySem.F.entry_list_init
    (code_list_new _ ⟨rfl, rfl⟩) fun obj s₁ h₁ => ?_
  obtain ⟨rfl, rfl⟩ := h₁
  have hS : (w.s.heap.push { cls := .type "list", data := .seq #[] }).get? w.s.heap.objs.size = some { cls := .type "list", data := .seq #[] } := Heap.get?_push_size _ rfl
  have f0 := Heap.fresh0 w.s.heap
  refine ⟨⟨_, hS, rfl⟩, PySem.F.args_list_init_2 _ _, ?_⟩
  show wpAny _ A.in1.in1 (do let old ← Builtin.List.listItems (.ref w.s.heap.objs.size); Builtin.List.listUpdate (.ref w.s.heap.objs.size) (fun u0 => #[]); letGo old.toList.reverse; Builtin.List.listExtendWith (.ref w.s.heap.objs.size) (.ref it) .none) _ _ _
  refine wpAny_bind ?_
  unfold Builtin.List.listItems
  refine wpAny_bind (wpAny_seqItems hS rfl (wpAny_pure ?_))
  show wpAny _ _ (updateSeq w.s.heap.objs.size (fun u0 => #[]) >>= fun u0 => letGo (#[] : Array Value).toList.reverse >>= fun u0 => Builtin.List.listExtendWith (.ref w.s.heap.objs.size) (.ref it) .none) _ _ _
  refine wpAny_bind (wpAny_updateSeq hS rfl ?_)
  have hS₂ := Heap.get?_update_self (Obj.mapSeq (fun u0 => (#[] : Array Value))) hS rfl
  have hk : ∀ b o, w.s.heap.get? b = some o → ((w.s.heap.push { cls := .type "list", data := .seq #[] }).update w.s.heap.objs.size (Obj.mapSeq (fun u0 => (#[] : Array Value)))).get? b = some o :=
    fun b o e => (Heap.get?_update_other _ _ fun q => by rw [← q, f0] at e; cases e).trans (Heap.get?_push_of_some _ e)
  refine wpAny_bind (wpAny_letGo ?_)
  have g := grown I w.s.toks hk
  have df := I.dead _ f0
  have hne : w.s.heap.objs.size ≠ it := fun q => zi.alive.no (q ▸ f0)
  revert g hS₂
  show _ → _ → wpAny _ _ _ _ _ { w.s with heap := (w.s.heap.push { cls := .type "list", data := .seq #[] }).update w.s.heap.objs.size (Obj.mapSeq (fun u0 => (#[] : Array Value))), toks := w.s.toks }
  generalize (w.s.heap.push { cls := .type "list", data := .seq #[] }).update w.s.heap.objs.size (Obj.mapSeq (fun u0 => (#[] : Array Value))) = h1
  generalize w.s.heap.objs.size = S at df hne
  generalize ({ w.s with heap := h1, toks := w.s.toks } : Shared) = s1
  intro hS₂ g
  obtain ⟨w1, x1, I1, e1, tg⟩ := g
  subst e1
  have r1 := x1.rep r
  obtain ⟨it', e, u1, hT⟩ := it_type I1 hn r1
  cases e
  unfold Builtin.List.listExtendWith
  refine wpAny_bind (wpAny_typeOf hT ?_)
  have h1 : Builtin.List.listSameRef (.ref S) (.ref it) = false := beq_false_of_ne hne
  rw [if_neg (by rw [h1]; decide)]
  refine wpAny_bind (wpAny_pyIter_slot hT slot_listiter_iter (wpAny_call_entry slot_listiter_iter hT entry_listiter_iter (wpAny_pure ⟨_, rfl, "list_iterator", _, hT, slot_listiter_next.lookup, ?_⟩) (args_listiter_iter _)))
  refine wpAny_bind (wpAny_holding ?_)
  unfold Builtin.List.listLengthHint
  refine wpAny_bind (wpAny_specialOf hT F.nolen_li ?_)
  show wpAny _ _ (specialOf (Value.ref it) (Str.ofString "__length_hint__") >>= _) _ _ _
  refine wpAny_bind (wpAny_specialOf hT F.hint_li ?_)
  generalize hid : ("list_iterator.__length_hint__" : String) = id0
  wp_delta
  rw [show splitId id0 = some ("list_iterator", "__length_hint__") from by subst hid; decide +kernel]
  subst hid
  refine wpAny_bind (wpAny_isInstance (b := true) hT (by rw [isSubtype_type]; kernel_rfl) ?_)
  refine wpAny_pure ?_
  rw [if_neg (by decide)]
  refine wpAny_pure ⟨plainId_quiet F.plain_extend_loop _, codeAny_builtin PySem.F.entry_extend_loop ?_⟩
  rw [Around.under_plainId PySem.F.plain_extend_loop _]
  show wpAny _ _ (pyNext (.ref it) >>= _) _ _ _
  exact wpAny_bind (it_done (A := A.in1.in1) hA I1 hn r1 fun w' x I' => wpAny_pure ⟨rfl, w', x1.trans x, I', S, [], _, x.keep _ _ ⟨(tg S).trans df, hS₂⟩, rfl⟩)
end
end Mine
end
section
open PySem PySem.W PyProof.Rows
namespace Mine
theorem mf_join : MeFacts "str" "join" "str.join" := ⟨PySem.F.plainAttrs_str, PySem.F.slot_str_join, PySem.F.type_str_join⟩
theorem mf_split : MeFacts "str" "split" "str.split" := ⟨PySem.F.plainAttrs_str, PySem.F.slot_str_split, PySem.F.type_str_split⟩
theorem mf_count : MeFacts "str" "count" "str.count" := ⟨PySem.F.plainAttrs_str, PySem.F.slot_str_count, PySem.F.type_str_count⟩
theorem mf_tindex : MeFacts "tuple" "index" "tuple.index" := ⟨PySem.F.plainAttrs_tuple, PySem.F.slot_tuple_index, PySem.F.type_tuple_index⟩
theorem mf_append : MeFacts "list" "append" "list.append" := ⟨PySem.F.plainAttrs_list, PySem.F.slot_list_append, PySem.F.type_list_append⟩
theorem mf_pop : MeFacts "list" "pop" "list.pop" := ⟨PySem.F.plainAttrs_list, PySem.F.slot_list_pop, PySem.F.type_list_pop⟩
theorem mf_get : MeFacts "dict" "get" "dict.get" := ⟨PySem.F.plainAttrs_dict, PySem.F.slot_dict_get, PySem.F.type_dict_get⟩
theorem mf_update : MeFacts "dict" "update" "dict.update" := ⟨PySem.F.plainAttrs_dict, PySem.F.slot_dict_update, PySem.F.type_dict_update⟩
section
variable {prog : Program} {w : World} {A : Around} {E : Value → Shared → Prop} {s : Shared}
theorem tuple_index_call {t : Addr} {items : Array Value} {x : Value} {e : Value → Bool} {j : Nat} {Q : Value → Shared → Prop} (ht : IsTup s.heap t items) (he : ∀ y, y ∈ items → MeetsSeq.EqGives y x (e y)) (hj : j < items.size) (hit : e items[j] = true)
    (hno : ∀ m (hm : m < items.size), m < j → e items[m] = false) (h : Q (.int j s.toks) { s with toks := s.toks + 1 }) : wpAny (model prog w) A (call (.builtin "tuple.index") [.ref t, x]) Q E s := by
  refine wpAny_call_entry PySem.F.slot_tuple_index ht.typeIs PySem.F.entry_tuple_index ?_ (PySem.F.args_tuple_index_2 _ _)
  unfold Builtin.«tuple.index»
  refine wpAny_bind (m := selfAndSome "tuple.index" "index" 1 3 _) (wpAny_of_eq (a := (Value.ref t, [x])) (by first | rfl | kernel_rfl) ?_)
  dsimp only
  refine wpAny_bind (tupleItemsOf_ ht ?_)
  refine wpAny_bind (wpAny_pure ?_)
  refine wpAny_bind (wpAny_pure ?_)
  rw [Nat.min_self]
  rw [Std.Legacy.Range.forIn_eq_forIn_range']
  have hsz : ([:items.size] : Std.Legacy.Range).size = items.size := by simp [Std.Legacy.Range.size]
  rw [hsz]
  refine wpAny_bind (wpAny_forIn_list _ (fun rest b s' => ∃ i, i ≤ j ∧ rest = List.range' i (items.size - i) ∧ b = (none, ()) ∧ s' = s) _ ?_ ?_ _ _ ⟨0, Nat.zero_le _, by simp, rfl, rfl⟩)
  · rintro i0 rest b s' ⟨i, hi, hr, rfl, rfl⟩
    have hlt : i < items.size := Nat.lt_of_le_of_lt hi hj
    have hr' : List.range' i (items.size - i) = i :: List.range' (i + 1) (items.size - (i + 1)) := by
      have : items.size - i = (items.size - (i + 1)) + 1 := (Nat.succ_pred (Nat.sub_ne_zero_of_lt hlt)).symm
      rw [this, List.range'_succ]
    rw [hr'] at hr
    obtain ⟨rfl, rfl⟩ := List.cons.inj hr
    rw [Array.getElem?_eq_getElem hlt]
    refine wpAny_bind (he _ (Array.getElem_mem hlt) prog w _ _ _ _ ?_)
    rcases Nat.lt_or_eq_of_le hi with q | q
    · rw [hno _ hlt q, if_neg (by decide)]
      exact wpAny_pure ⟨_, q, rfl, rfl, rfl⟩
    · subst q
      rw [hit, if_pos rfl]
      refine wpAny_bind (wpAny_bind (wpAny_mkInt (wpAny_pure (wpAny_pure ?_))))
      exact wpAny_pure ⟨_, rfl, h⟩
  · rintro b s' ⟨i, hi, hr, rfl, rfl⟩
    have : (List.range' i (items.size - i)).length = 0 := by rw [← hr]; rfl
    rw [List.length_range'] at this
    exact absurd (Nat.sub_eq_zero_iff_le.mp this) (Nat.not_le_of_lt (Nat.lt_of_le_of_lt hi hj))
theorem hint_str {x : Str} {t : Tok} {Q : Bool → Shared → Prop} (h : Q false s) : wpAny (model prog w) A (Builtin.List.listLengthHint (.str x t)) Q E s := by
  have hT : s.TypeIs (.str x t) "str" := rfl
  unfold Builtin.List.listLengthHint
  refine wpAny_bind (wpAny_specialOf hT PySem.F.slot_str_len.lookup ?_)
  generalize hid : ("str.__len__" : String) = id0
  wp_delta
  rw [show splitId id0 = some ("str", "__len__") from by subst hid; decide +kernel]
  subst hid
  refine wpAny_bind (wpAny_isInstance (T := "str") (b := true) hT (by rw [isSubtype_type]; kernel_rfl) ?_)
  refine wpAny_ite_split (fun hab => absurd hab (by decide)) (fun u0 => ?_)
  refine wpAny_ite_split (fun u0 => ?_) (fun hab => absurd (by decide +kernel) hab)
  refine wpAny_bind (wpAny_typeOf hT ?_)
  exact wpAny_pure h
theorem str_extend {R : Result → Shared → Prop} {x : Str} {t : Tok} {oI : Obj} {n : Nat} {P : Nat → Value → Prop} {St : Nat → Heap → Prop}
    (hit : ∀ (E : Value → Shared → Prop) (Q : Value → Shared → Prop), Q (.ref s.heap.objs.size) { s with heap := s.heap.push oI } → wpAny (model prog w) A.in1 (pyIter (.str x t)) Q E s)
    (W : Walks prog w A.in1 s.heap.objs.size [s.heap.objs.size] [s.heap.objs.size] n P St) (st : St 0 (s.heap.push oI)) (S : Addr) (c₀ : Nat) (hS : s.heap.get? S = some { cls := .type "list", data := .seq #[] c₀ })
    (hR : ∀ h' tk acc' c', (∀ b o, b ≠ S → s.heap.get? b = some o → h'.get? b = some o) → h'.get? S = some { cls := .type "list", dict := none, data := .seq acc' c', slots := #[] } → ItemsOf P acc' n → R (.ok (.ret .none)) { s with heap := h', toks := tk }) (hn : n ≤ sizeLine) :
    wpAny (model prog w) A.in1 (Builtin.List.listExtendWith (.ref S) (.str x t) .none)
      (fun fin s' => match fin with | .done f => R (.ok f) s' | .again c' => c'.quiet = true ∧ codeAny (model prog w) A c' R s') (fun e s' => R (.error e) s') s := by
  have hT : s.TypeIs (.str x t) "str" := rfl
  have hSI : S ≠ s.heap.objs.size := Nat.ne_of_lt (Heap.lt_size hS)
  have hSf : S ∉ [s.heap.objs.size] := by simp only [List.mem_singleton]; exact hSI
  unfold Builtin.List.listExtendWith
  refine wpAny_bind (wpAny_typeOf hT ?_)
  rw [if_neg (by simp [Builtin.List.listSameRef])]
  refine wpAny_bind (hit _ _ ?_)
  have hS₁ := Heap.get?_push_of_some oI hS
  refine wpAny_bind (wpAny_holding (hint_str ?_))
  rw [if_neg (by decide +kernel)]
  refine wpAny_pure ⟨plainId_quiet PySem.F.plain_extend_loop _, ?_⟩
  show codeAny (model prog w) A (.builtin "list.extend.loop" ⟨[.ref S, .ref s.heap.objs.size, .none], []⟩) R { s with heap := s.heap.push oI, toks := s.toks }
  refine codeAny_extend_loopS W.toS hn S hSf .none n 0 _ #[] c₀ rfl (Nat.zero_le _) st hS₁ (ItemsOf.nil _) fun s' acc' c' hm hS' hacc => ?_
  rw [Moved.eq_with hm]
  refine hR s'.heap s'.toks acc' c' (fun b o hb e => hm.heap b o (fun hmem => ?_) (Heap.get?_push_of_some _ e)) hS' hacc
  rcases List.mem_cons.mp hmem with e' | hmem
  · exact hb e'
  · exact absurd (Heap.lt_size e) (by rw [List.mem_singleton.mp hmem]; exact Nat.lt_irrefl _)
end
section
variable {C : Cx} {A : Around} {w w' : W} {σ σ' : St} {a d e : D} {l : List D} {v u : Value} {vs : List Value} {E : Value → Shared → Prop} {n : Nat} {x y : Str}
theorem out_strs {ts : List (Str × Tok)} {ss : List Str} (I : Inv C σ w) (t : Tok) (h : ts.map (·.1) = ss) : Out C w σ (.lst (ss.map .str)) (.ref w.s.heap.objs.size) { w.s with heap := w.s.heap.push (seqObj "list" (strValues ts) 0), toks := t } :=
  out_list I t (strsAre_rep (h ▸ strsAre_of))
theorem split0_ok {t : Tok} (I : Inv C σ w) (hsz : x.length ≤ 16777216) (hsz2 : (Builtin.Str.spaceWords x (x.length + 1)).length ≤ 16777216) : wpAny C.M A (call (.builtin "str.split") [.str x t]) (Out C w σ (.lst ((Txt.words x).map .str))) E w.s := by
  refine call_meets PySem.F.slot_str_split (typeIs_str _ _ _) PySem.F.entry_str_split (PySem.F.args_str_split_1 _) (meets_str_split_space x t (by rw [sizeLine_is]; exact hsz) (by rw [sizeLine_is]; exact hsz2)) ?_
  cases hw : Builtin.Str.spaceWords x (x.length + 1) == [(0, x.length)]
  · rw [if_neg Bool.false_ne_true, strsFrom_eq]
    exact out_strs I _ ((numbered_texts _ _).trans (if_neg (ne_true_of_eq_false hw)).symm)
  · exact out_strs (ts := [(x, t)]) I w.s.toks (if_pos hw).symm
theorem split1_ok {t u : Tok} (I : Inv C σ w) (hy : (y.length == 0) = false) (hsz : x.length ≤ 16777216) (hsz2 : (Builtin.Str.partsBetween x (Builtin.Str.occurrences x y 0 x.length (x.length + 1)) y.length).length ≤ 16777216) :
    wpAny C.M A (call (.builtin "str.split") [.str x t, .str y u]) (Out C w σ (.lst ((Txt.split x y).map .str))) E w.s := by
  cases h1 : (decide (x.length < y.length) || decide (PySem.Builtin.Str.strKind x < PySem.Builtin.Str.strKind y))
  · cases hf : (Builtin.Str.occurrences x y 0 x.length (x.length + 1)).isEmpty
    · refine call_meets PySem.F.slot_str_split (typeIs_str _ _ _) PySem.F.entry_str_split (PySem.F.args_str_split_2 _ _) (meets_str_split_sep x y t u h1 hy hf (by rw [sizeLine_is]; exact hsz) (by rw [sizeLine_is]; exact hsz2)) ?_
      show wants _ E _ { w.s with toks := _, heap := w.s.heap.push { cls := .type "list", data := .seq (strsFrom w.s.toks (Builtin.Str.partsBetween x (Builtin.Str.occurrences x y 0 x.length (x.length + 1)) y.length)).toArray } }
      rw [strsFrom_eq]
      exact out_strs I _ ((numbered_texts _ _).trans ((if_neg (ne_true_of_eq_false h1)).trans (if_neg (ne_true_of_eq_false hf))).symm)
    · exact call_meets PySem.F.slot_str_split (typeIs_str _ _ _) PySem.F.entry_str_split (PySem.F.args_str_split_2 _ _) (meets_str_split_not_found x y t u h1 hy hf)
        (out_strs (ts := [(x, t)]) I w.s.toks ((if_neg (ne_true_of_eq_false h1)).trans (if_pos hf)).symm)
  · exact call_meets PySem.F.slot_str_split (typeIs_str _ _ _) PySem.F.entry_str_split (PySem.F.args_str_split_2 _ _) (meets_str_split_cannot_occur x y t u h1)
      (out_strs (ts := [(x, t)]) I w.s.toks (if_pos h1).symm)
theorem strs_find {ts : List (Str × Tok)} {j : Nat} {u : Tok} (hj : (ts.map (·.1))[j]? = some y) (hno : ∀ m, m < j → (ts.map (·.1))[m]? ≠ some y) : (∀ z, z ∈ (strValues ts).toArray → MeetsSeq.EqGives z (.str y u) (isStr y z)) ∧ ∃ hj : j < (strValues ts).toArray.size, isStr y (strValues ts).toArray[j] = true ∧ ∀ m (hm : m < (strValues ts).toArray.size), m < j → isStr y (strValues ts).toArray[m] = false := by
  have at' : ∀ m (hm : m < (strValues ts).toArray.size), ∃ x t, (strValues ts).toArray[m] = .str x t ∧ (ts.map (·.1))[m]? = some x := fun m hm => by
    have h1 : (strValues ts)[m]? = some (strValues ts).toArray[m] := by rw [← List.getElem?_toArray]; exact Array.getElem?_eq_getElem hm
    unfold strValues at h1
    rw [List.getElem?_map] at h1
    obtain ⟨p, e1, e2⟩ := Option.map_eq_some_iff.mp h1
    exact ⟨p.1, p.2, e2.symm, by rw [List.getElem?_map, e1]; rfl⟩
  refine ⟨strs_eqg ts, ?_⟩
  have hlt : j < (strValues ts).toArray.size := by rw [List.size_toArray]; have := get_lt hj; unfold strValues; rwa [List.length_map] at this ⊢
  refine ⟨hlt, ?_, fun m hm hmj => ?_⟩
  · obtain ⟨x, t, e1, e2⟩ := at' j hlt
    cases e2.symm.trans hj
    rw [e1]; exact beq_iff_eq.mpr rfl
  · obtain ⟨x, t, e1, e2⟩ := at' m hm
    rw [e1]
    refine beq_false_of_ne fun q => hno m hmj (e2.trans ?_)
    cases x; cases y
    exact congrArg (fun a => some (Str.mk a)) (Array.toList_inj.mp q)
theorem list_str (hA : A.handled = none) (I : Inv C σ w) (r : Rep C w (.str x) v) (hz : x.cps.size ≤ 16777216) : wpAny C.M A (call (.type "list") [v]) (Out C w σ (.lst (signs x))) E w.s := by
  obtain ⟨t, rfl⟩ := r
  have hn : x.cps.size ≤ sizeLine := by rw [sizeLine_is]; exact hz
  refine callType_codes (Q₁ := fun obj s₁ => obj = .ref w.s.heap.objs.size ∧ s₁ = { w.s with heap := w.s.heap.push { cls := .type "list", data := .seq #[] } }) PySem.F.called_list (PySem.F.typeCall_list_1 _) PySem.F.entry_list_init
    (code_list_new _ ⟨rfl, rfl⟩) fun obj s₁ h₁ => ?_
  obtain ⟨rfl, rfl⟩ := h₁
  have hS : (w.s.heap.push { cls := .type "list", data := .seq #[] }).get? w.s.heap.objs.size = some { cls := .type "list", data := .seq #[] } := Heap.get?_push_size _ rfl
  have hfr := Heap.fresh0 w.s.heap
  refine ⟨⟨_, hS, rfl⟩, PySem.F.args_list_init_2 _ _, ?_⟩
  show wpAny _ A.in1.in1 (do let old ← Builtin.List.listItems (.ref w.s.heap.objs.size); Builtin.List.listUpdate (.ref w.s.heap.objs.size) (fun u0 => #[]); letGo old.toList.reverse; Builtin.List.listExtendWith (.ref w.s.heap.objs.size) (.str x t) .none) _ _ _
  refine wpAny_bind ?_
  unfold Builtin.List.listItems
  refine wpAny_bind (wpAny_seqItems hS rfl (wpAny_pure ?_))
  show wpAny _ _ (updateSeq w.s.heap.objs.size (fun u0 => #[]) >>= fun u0 => letGo (#[] : Array Value).toList.reverse >>= fun u0 => Builtin.List.listExtendWith (.ref w.s.heap.objs.size) (.str x t) .none) _ _ _
  refine wpAny_bind (wpAny_updateSeq hS rfl ?_)
  have hS₂ := Heap.get?_update_self (Obj.mapSeq (fun u0 => (#[] : Array Value))) hS rfl
  have hk : ∀ b o, w.s.heap.get? b = some o → ((w.s.heap.push { cls := .type "list", data := .seq #[] }).update w.s.heap.objs.size (Obj.mapSeq (fun u0 => (#[] : Array Value)))).get? b = some o :=
    fun b o e => (Heap.get?_update_other _ _ fun q => by rw [← q, hfr] at e; cases e).trans (Heap.get?_push_of_some _ e)
  refine wpAny_bind (wpAny_letGo ?_)
  have fin : ∀ (h' : Heap) tk (acc' : Array Value) c', (∀ b o, b ≠ w.s.heap.objs.size → ((w.s.heap.push { cls := .type "list", data := .seq #[] }).update w.s.heap.objs.size (Obj.mapSeq (fun u0 => (#[] : Array Value)))).get? b = some o → h'.get? b = some o) →
      h'.get? w.s.heap.objs.size = some { cls := .type "list", dict := none, data := .seq acc' c', slots := #[] } → ItemsOf (SignAt x) acc' x.cps.size → Out C w σ (.lst (signs x)) (.ref w.s.heap.objs.size) { w.s with heap := h', toks := tk } := by
    intro h' tk acc' c' hk' hS' hacc
    refine out_grown I (fun b o e => hk' b o (fun q => by rw [q, hfr] at e; cases e) (hk b o e)) ⟨_, acc'.toList, c', ⟨I.dead _ hfr, ?_⟩, ?_⟩
    · show _ = some ({ cls := .type "list", data := .seq acc'.toList.toArray c' } : Obj)
      rw [Array.toArray_toList]; exact hS'
    · refine repL_of (by rw [Array.length_toList, hacc.1]; unfold signs; rw [List.length_map, Array.length_toList]) fun i d e => ?_
      unfold signs at e
      rw [List.getElem?_map] at e
      obtain ⟨c, e1, rfl⟩ := Option.map_eq_some_iff.mp e
      have hi : i < acc'.size := by rw [hacc.1, ← Array.length_toList]; exact get_lt e1
      obtain ⟨c', u, e', q⟩ := hacc.2 i acc'[i] (Array.getElem?_eq_getElem hi)
      cases (Array.getElem?_toList.symm.trans e1).symm.trans e'
      exact ⟨acc'[i], Array.getElem?_toList.trans (Array.getElem?_eq_getElem hi), u, q⟩
  cases ha : x.cps.all (· < 128)
  · refine str_extend (A := A.in1) (fun E Q q => wpAny_pyIter_wide ha q) (Walks.strWide (A := A.in1.in1) (show A.in1.in1.handled = none from hA) _ x t) ⟨_, Heap.get?_push_size _ rfl, rfl, rfl⟩ _ _ hS₂ (fun h' tk acc' c' hk' hS' hacc => ⟨rfl, fin h' tk acc' c' hk' hS' hacc⟩) hn
  · refine str_extend (A := A.in1) (fun E Q q => wpAny_pyIter_ascii ha q) (Walks.strAscii (A := A.in1.in1) (show A.in1.in1.handled = none from hA) _ x t) ⟨_, Heap.get?_push_size _ rfl, rfl, rfl⟩ _ _ hS₂ (fun h' tk acc' c' hk' hS' hacc => ⟨rfl, fin h' tk acc' c' hk' hS' hacc⟩) hn
end
section
variable {K : Ctx} {ρ : Rho} {σ σ' σ₁ σ₂ : St} {a b d : D} {l : List D} {n : Nat} {o e : Expr} {p q apos pos : Pos} {x y : Str} {args : List Expr}
theorem TE_isTuple {i : Int} {z : Str} (hb : Bi K.C x (.builtin "isinstance")) (hk : K.fd.glob x = true) (hb' : Bi K.C z (.type "tuple")) (hk' : K.fd.glob z = true) (he : TE K ρ (eval e K.env) σ (.int i) σ₁) (hu : unstarred [e] = true := by rfl) : TE K ρ (eval (.Call (.Name x p) [e, .Name z q] [] pos) K.env) σ (.bool false) σ₁ := fun u0 u0 r => by
  have hu2 : unstarred [e, .Name z q] = true := by cases e <;> first | rfl | cases hu
  refine wpAny_Call_Name_kw (builtin_ok r hk hb (Calls.callWith_builtin (noStar hu2) (evalArgs_spliced (noStar hu2) ?_)))
  refine wpAny_items_cons (e := e) (rest := [.Name z q]) (pos := pos) (he.go r fun v w1 n1 => ?_) (starEach_cons hu)
  refine wpAny_items_cons (e := .Name z q) (rest := []) (pos := pos) (builtin_ok n1.p hk' hb' (wpAny_items_nil ?_)) rfl
  obtain ⟨t, e'⟩ := n1.r
  subst e'
  exact IsiPair.int_tuple ((out_bool n1.p.I false _).after n1.x)
theorem TE_listStr (hb : Bi K.C x (.type "list")) (hk : K.fd.glob x = true) (he : TE K ρ (eval e K.env) σ (.str y) σ') (hz : y.cps.size ≤ 16777216) (hu : unstarred [e] = true := by rfl) : TE K ρ (eval (.Call (.Name x p) [e] [] pos) K.env) σ (.lst (signs y)) σ' :=
  TE_bi hb hk rfl hu (TL_cons hu he TL_nil) fun p ⟨v, _, r, e'⟩ => by cases e'; exact list_str p.o.room.handled p.I r hz
end
end Mine
end
section
open PySem PySem.W PyProof.Rows
namespace Mine
section
variable {κ : Type} [DecidableEq κ] {C : Cx} {w w' : W}
theorem stored_nodup {kvl : List (κ × Value)} (hn : (kvl.map (·.1)).Nodup) (k : κ) (v : Value) : ((stored kvl k v).map (·.1)).Nodup := by
  unfold stored
  split
  · rw [keys_map_store]; exact hn
  · rename_i q
    rw [List.map_append, List.nodup_append]
    refine ⟨hn, List.nodup_cons.mpr ⟨List.not_mem_nil, .nil⟩, fun x hx y hy => ?_⟩
    cases List.mem_singleton.mp hy
    rintro rfl
    obtain ⟨⟨k', w⟩, hw, e⟩ := List.mem_map.mp hx
    exact q (List.any_eq_true.mpr ⟨_, hw, decide_eq_true e⟩)
theorem RepK.mono (M : Mono w w') : ∀ (l : List (κ × D)) (kvs : List (κ × Value)), RepK C w l kvs → RepK C w' l kvs
  | [], _ => id
  | (_, d) :: l, _ => HKV.imp (Rep.mono M d) (RepK.mono M l)
noncomputable def ksets (l m : List (κ × D)) : List (κ × D) := m.foldl (fun l p => kset l p.1 p.2) l
theorem repK_merged : ∀ {m l : List (κ × D)} {kvm kvl : List (κ × Value)}, RepK C w m kvm → RepK C w l kvl → (kvl.map (·.1)).Nodup → RepK C w (ksets l m) (merged kvl kvm)
  | [], l, kvm, kvl, rm, rl, hn => by cases rm; exact rl
  | (k, d) :: m, l, _, kvl, ⟨v, r', a, b⟩, rl, hn => show RepK C w (ksets (kset l k d) m) (merged (stored kvl k v) r') from repK_merged b (repK_stored rl hn a) (stored_nodup hn k v)
noncomputable def RepP (C : Cx) (w : W) (kd : κ → D) : List (κ × D) → List (Value × Value) → Prop
  | [] => fun vs => vs = []
  | (k, d) :: l => HCons (fun p => Rep C w (kd k) p.1 ∧ Rep C w d p.2) (RepP C w kd l)
theorem repP_carries {kd : κ → D} {knd : KeyKind C.prog C.w κ} (hk : ∀ k u, Rep C w (kd k) u → knd.is k u = true) : ∀ {l : List (κ × D)} {vs : List (Value × Value)}, RepP C w kd l vs → ∃ kvs, Carries knd vs kvs ∧ RepK C w l kvs
  | [], _, r => by cases r; exact ⟨[], trivial, rfl⟩
  | (k, d) :: l, _, ⟨p, r, a, b⟩ => let ⟨kvs, c1, c2⟩ := repP_carries hk b; ⟨(k, p.2) :: kvs, ⟨hk k _ a.1, rfl, c1⟩, p.2, kvs, a.2, c2⟩
theorem strIs {k : Str} {u : Value} : Rep C w (.str k) u → (strKind C.prog C.w).is k u = true := fun ⟨t, e⟩ => e ▸ decide_eq_true rfl
theorem intIs {k : Int} {u : Value} : Rep C w (.int k) u → (intKind C.prog C.w).is k u = true := fun ⟨t, e⟩ => e ▸ decide_eq_true rfl
end
section
variable {κ : Type} [DecidableEq κ] {K : Ctx} {ρ : Rho} {σ σ' σ₁ σ₂ σ₃ : St} {a b d : D} {l : List D} {pos : Pos} {kx vx : Expr} {kd : κ → D} {w : W}
inductive OutKV (C : Cx) (w : W) (σ : St) (kd : κ → D) (l : List (κ × D)) (vs : List (Value × Value)) : Shared → Prop
  | mk (w' : W) (x : Step NoF w w') (I : Inv C σ w') (r : RepP C w' kd l vs) : OutKV C w σ kd l vs w'.s
noncomputable def TKV (K : Ctx) (ρ : Rho) (kd : κ → D) (t : Sem (List (Value × Value))) (σ : St) (l : List (κ × D)) (σ' : St) : Prop := ∀ ⦃w : W⦄ ⦃E : Value → Shared → Prop⦄, Ok K ρ σ w → wpAny K.C.M K.A t (OutKV K.C w σ' kd l) E w.s
theorem TKV_nil : TKV K ρ kd (evalPairs []) σ [] σ := fun w u0 p => evalPairs_nil ⟨w, .refl _ _, p.I, rfl⟩
noncomputable abbrev pairS (K : Ctx) (kx vx : Expr) (pos : Pos) : Sem Value × Sem Value := (eval kx K.env, (do let x ← eval vx K.env; standAt pos; pure x))
theorem TKV_cons {k : κ} {r : List (Sem Value × Sem Value)} {l : List (κ × D)} (hk : TE K ρ (eval kx K.env) σ (kd k) σ₁) (hv : TE K ρ (eval vx K.env) σ₁ d σ₂) (hr : TKV K ρ kd (evalPairs r) σ₂ l σ₃) : TKV K ρ kd (evalPairs (pairS K kx vx pos :: r)) σ ((k, d) :: l) σ₃ := fun u0 u0 p =>
  evalPairs_cons (hk.go p fun u w1 n1 => wpAny_bind (hv.go n1.p fun v w2 n2 => wpAny_bind (wpAny_standAt (wpAny_pure (wpAny_mono (hr n2.p) (fun vs u0 ⟨w3, x3, I3, r3⟩ => ⟨w3, (n1.x.trans n2.x).trans x3, I3, (u, v), vs, ⟨(n2.x.trans x3).rep n1.r, x3.rep n2.r⟩, r3⟩) fun u0 u0 e => e)))))
noncomputable def pairsOf (keys : List (Option Expr)) (values : List Expr) (pos : Pos) (env : Env) : List (Option (Sem Value) × Sem Value) := (evalEachOpt keys env).zip ((evalEach values env).map fun v => do let x ← v; standAt pos; pure x)
theorem dict_priv {knd : KeyKind K.C.prog K.C.w κ} {keys : List (Option Expr)} {values : List Expr} {pairs : List (Sem Value × Sem Value)} {l : List (κ × D)} {G : Addr → W → Prop} (hk : ∀ w k u, Rep K.C w (kd k) u → knd.is k u = true) (hG : ∀ {a w o kvs}, a ≠ sysModules → At w (.mu a) a o → o.IsDictOf knd kvs → RepK K.C w (ksets [] l) kvs → G a w)
    (hp : TKV K ρ kd (evalPairs pairs) σ l σ') (hshape : pairsOf keys values pos K.env = pairs.map fun p => (some p.1, p.2)) (hne : pairs ≠ []) (hlen : pairs.length ≤ 15) : TP K ρ (eval (.Dict keys values pos) K.env) σ G σ' := fun {w E} p => by
  obtain ⟨x1, I1⟩ := new_priv (o := { cls := .type "dict", data := .dict #[] }) (t := w.s.toks) p.I rfl
  have za : At (w.put [w.s.heap.objs.size] (.mu w.s.heap.objs.size) (w.s.heap.push { cls := .type "dict", data := .dict #[] }) w.s.toks []) (.mu w.s.heap.objs.size) w.s.heap.objs.size { cls := .type "dict", data := .dict #[] } := ⟨if_pos (.head _), Heap.get?_push_size _ rfl⟩
  have na := NoT.of p.I (Heap.fresh0 w.s.heap)
  have ns := sys_ne p.I
  have hd : (w.s.heap.push { cls := .type "dict", data := .dict #[] }).DictOf knd w.s.heap.objs.size [] := Heap.DictOf.new w.s.heap
  refine wpAny_Dict_pairs (knd := knd) hshape hne hlen ?_
  have p1 := p.next x1 I1
  show wpAny _ _ _ _ _ (w.put [w.s.heap.objs.size] (.mu w.s.heap.objs.size) (w.s.heap.push { cls := .type "dict", data := .dict #[] }) w.s.toks []).s
  generalize w.put [w.s.heap.objs.size] (.mu w.s.heap.objs.size) (w.s.heap.push { cls := .type "dict", data := .dict #[] }) w.s.toks [] = w1 at x1 I1 za p1 ⊢
  generalize w.s.heap.objs.size = a at za na ns hd ⊢
  refine wpAny_mono (hp p1) (fun vs u0 ⟨w2, x2, I2, r⟩ => ?_) fun u0 u0 e => e
  obtain ⟨kvs, c1, c2⟩ := repP_carries (hk w2) r
  have z2 := x2.mu a id _ _ za
  have p2 := p1.next x2 I2
  have ai : a ∉ K.ids := fun m => by obtain ⟨u1, z⟩ := p.V.ids a m; exact na _ z.tag
  refine ⟨kvs, c1, Heap.dictOf_iff.mpr ⟨_, z2.is, dict_new za⟩, fun h' hd' hs' => ?_⟩
  obtain ⟨o', e', d'⟩ := Heap.dictOf_iff.mp hd'
  obtain ⟨x3, p3, z3⟩ := own_step (t := w2.s.toks + vs.length) p2 ai z2 e' hs'.2
  exact ⟨_, a, ((x1.trans x2).ofN.trans x3).tight fun b q => .inr (q ▸ na), p3.I, na, hG ns z3 d' (repK_merged (RepK.mono x3.toMono l kvs c2) rfl .nil)⟩
end
section
variable {K : Ctx} {ρ : Rho} {σ σ' σ₁ σ₂ σ₃ : St} {a b c d : D} {l : List D} {pos p' apos : Pos} {kx vx ky vy o : Expr} {w : W} {n : Nat} {args : List Expr} {x y : Str}
theorem TP_ds1 {k : Str} (hk : TE K ρ (eval kx K.env) σ (.str k) σ₁) (hv : TE K ρ (eval vx K.env) σ₁ d σ₂) : TP K ρ (eval (.Dict [some kx] [vx] pos) K.env) σ (fun a => GD K.C a [(k, d)]) σ₂ :=
  dict_priv (knd := strKind K.C.prog K.C.w) (kd := .str) (l := [(k, d)]) (pairs := [pairS K kx vx pos]) (fun u0 u0 u0 => strIs) (fun ne z e r => ⟨_, _, ne, z, e, by rw [repS_K]; exact r⟩) (TKV_cons hk hv TKV_nil) rfl (List.cons_ne_nil _ _) (Nat.le_of_ble_eq_true rfl)
theorem TP_di1 {k : Int} (hk : TE K ρ (eval kx K.env) σ (.int k) σ₁) (hv : TE K ρ (eval vx K.env) σ₁ d σ₂) : TP K ρ (eval (.Dict [some kx] [vx] pos) K.env) σ (fun a => GI K.C a [(k, d)]) σ₂ :=
  dict_priv (knd := intKind K.C.prog K.C.w) (kd := .int) (l := [(k, d)]) (pairs := [pairS K kx vx pos]) (fun u0 u0 u0 => intIs) (fun ne z e r => ⟨_, _, ne, z, e, by rw [repI_K]; exact r⟩) (TKV_cons hk hv TKV_nil) rfl (List.cons_ne_nil _ _) (Nat.le_of_ble_eq_true rfl)
theorem TP_ds2 {j k : Str} {e : D} {σ₄ : St} (hk : TE K ρ (eval kx K.env) σ (.str j) σ₁) (hv : TE K ρ (eval vx K.env) σ₁ d σ₂) (hk' : TE K ρ (eval ky K.env) σ₂ (.str k) σ₃) (hv' : TE K ρ (eval vy K.env) σ₃ e σ₄) : TP K ρ (eval (.Dict [some kx, some ky] [vx, vy] pos) K.env) σ (fun a => GD K.C a (kset [(j, d)] k e)) σ₄ :=
  dict_priv (knd := strKind K.C.prog K.C.w) (kd := .str) (l := [(j, d), (k, e)]) (pairs := [pairS K kx vx pos, pairS K ky vy pos]) (fun u0 u0 u0 => strIs) (fun ne z e r => ⟨_, _, ne, z, e, by rw [repS_K]; exact r⟩) (TKV_cons hk hv (TKV_cons hk' hv' TKV_nil)) rfl (List.cons_ne_nil _ _) (Nat.le_of_ble_eq_true rfl)
theorem TP_push {t : Sem Value} {obj : Obj} {G : Addr → W → Prop} (hf : obj.isFreed = false) (hG : ∀ {a w}, a ≠ sysModules → At w (.mu a) a obj → G a w) (h : ∀ {s : Shared} {Q E}, Q (.ref s.heap.objs.size) { s with heap := s.heap.push obj } → wpAny K.C.M K.A t Q E s) : TP K ρ t σ G σ := fun w E p => h (by
  obtain ⟨x1, I1⟩ := new_priv (o := obj) (t := w.s.toks) p.I hf
  exact ⟨w.put [w.s.heap.objs.size] (.mu w.s.heap.objs.size) (w.s.heap.push obj) w.s.toks [], _, x1, I1, .of p.I (Heap.fresh0 _), hG (sys_ne p.I) ⟨if_pos (.head _), Heap.get?_push_size _ hf⟩⟩)
theorem TP_d0 : TP K ρ (eval (.Dict [] [] pos) K.env) σ (fun a => GD K.C a []) σ := TP_push rfl (fun ne z => ⟨_, [], ne, z, dict_new z, rfl⟩) fun q => wpAny_Dict_empty q
theorem TP_seq (w₁ : W) {w : W} {vs : List Value} {t : Tok} (p : Ok K ρ σ w) (r : RepL K.C w l vs) : OutP K.C w σ (fun a => GL K.C a l) (.ref w.s.heap.objs.size) { w.s with heap := w.s.heap.push (seqObj "list" vs 0), toks := t } := by
  obtain ⟨x1, I1⟩ := new_priv (o := seqObj "list" vs 0) (t := t) p.I rfl
  exact ⟨_, _, x1, I1, .of p.I (Heap.fresh0 _), vs, 0, ⟨if_pos (.head _), Heap.get?_push_size _ rfl⟩, x1.repL r⟩
theorem TP_list (hl : TA K ρ args pos σ l σ₁) (hz : l.length ≤ 1000000) : TP K ρ (eval (.List args pos) K.env) σ (fun a => GL K.C a l) σ₁ := fun u0 u0 p =>
  wpAny_List (hl.go p fun vs w1 x1 p1 r1 => ⟨by rw [r1.length, sizeLine_is]; exact Nat.le_trans hz (by decide), (TP_seq w1 (t := w1.s.toks) p1 r1).after p.I x1⟩)
theorem TP_sl {value : Expr} {lo up st : Option Expr} {i j k : Option Int} (q : IsL σ' d l) (h0 : k ≠ some 0) (hz : l.length ≤ 16777216) (ho : TE K ρ (eval value K.env) σ d σ₁) (hx : TE K ρ (evalPart lo K.env) σ₁ a σ₂) (hy : TE K ρ (evalPart up K.env) σ₂ b σ₃) (hs : TE K ρ (evalPart st K.env) σ₃ c σ') (pi : Part a i) (pj : Part b j) (pk : Part c k) :
    TP K ρ (eval (.Subscript value (.Slice lo up st p') pos) K.env) σ (fun a => GL K.C a ((sliceRange (sliceBounds i j k l.length).1 (sliceBounds i j k l.length).2.1 (sliceBounds i j k l.length).2.2).filterMap (l[·]?))) σ' := fun u0 u0 p =>
  wp_subscript (ho.go p fun vo w0 n0 => wpAny_Slice (hx.go n0.p fun vx w1 n1 => hy.go n1.p fun vy w2 n2 => hs.go n2.p fun vz w3 n3 => by
    have g := grown (h := w3.s.heap.push { cls := .type "slice", data := .fields #[vx, vy, vz] }) n3.p.I w3.s.toks fun b o e => Heap.get?_push_of_some _ e
    have hs : (w3.s.heap.push { cls := .type "slice", data := .fields #[vx, vy, vz] }).get? w3.s.heap.objs.size = some { cls := .type "slice", data := .fields #[vx, vy, vz] } := Heap.get?_push_size _ rfl
    revert g
    show Grown _ _ _ _ { w3.s with heap := w3.s.heap.push { cls := .type "slice", data := .fields #[vx, vy, vz] } } → _
    generalize ({ w3.s with heap := w3.s.heap.push { cls := .type "slice", data := .fields #[vx, vy, vz] } } : Shared) = s4
    rintro ⟨w4, x4, I4, e4, _⟩
    have x34 := (n2.x.trans n3.x).trans x4
    obtain ⟨u1, pa, vs, m, z, r⟩ := q.at I4 ((n1.x.trans x34).rep n0.r)
    refine ⟨_, _, F.slot_list_getitem.lookup, ⟨_, z.is, rfl⟩, wpAny_getItem_list_slice (items := vs.toArray) ⟨_, z.is, rfl, m, rfl⟩ ⟨_, e4 ▸ hs, rfl, rfl⟩ (pi.at (x34.rep n1.r)) (pj.at ((n3.x.trans x4).rep n2.r)) (pk.at (x4.rep n3.r)) h0 ?_ (by rw [sizeLine_is, List.size_toArray, r.length]; exact hz)⟩
    rw [show slicePick vs.toArray i j k = ((sliceRange (sliceBounds i j k vs.length).1 (sliceBounds i j k vs.length).2.1 (sliceBounds i j k vs.length).2.2).filterMap (vs[·]?)).toArray by unfold slicePick; simp, r.length]
    exact (TP_seq w4 (t := w4.s.toks) (n3.p.next x4 I4) (r.pick _)).after p.I ((n0.x.trans n1.x).trans x34)))
theorem TE_join {ss : List Str} {sep : Str} (hj : JoinOk sep ss = true) (ho : TE K ρ (eval o K.env) σ (.str sep) σ₁) (i : IsL σ₂ a (ss.map .str)) (hl : TA K ρ args pos σ₁ [a] σ₂) (hf : (unstarred args && decide (args.length < 30) && (apos.endLine == pos.line)) = true := by rfl) (hb : attributeBase o "join" K.env (eval o K.env) = eval o K.env := by rfl) : TE K ρ (eval (.Call (.Attribute o "join" apos) args [] pos) K.env) σ (.str (Txt.join sep ss)) σ₂ :=
  TE_meth mf_join has_str ho hl (fun p ⟨t, e⟩ ⟨_, _, r, e'⟩ => by
    subst e e'
    obtain ⟨u1, b, vs, n, z, r⟩ := i.at p.I r
    obtain ⟨ts, e1, e2⟩ := repL_strs r
    subst e2
    exact SC.join (l := ts) ⟨_, z.is, rfl, n, rfl⟩ e1 hj fun t' k => out_str p.I _ _ _) hf hb
theorem TE_split0 (h1 : x.length ≤ 16777216) (h2 : (Builtin.Str.spaceWords x (x.length + 1)).length ≤ 16777216) (ho : TE K ρ (eval o K.env) σ (.str x) σ₁) (hf : (unstarred [] && decide (([] : List Expr).length < 30) && (apos.endLine == pos.line)) = true := by rfl) (hb : attributeBase o "split" K.env (eval o K.env) = eval o K.env := by rfl) : TE K ρ (eval (.Call (.Attribute o "split" apos) [] [] pos) K.env) σ (.lst ((Txt.words x).map .str)) σ₁ :=
  TE_meth mf_split has_str ho TL_nil (fun p ⟨t, e⟩ e' => by cases e; cases e'; exact split0_ok p.I h1 h2) hf hb
theorem TE_split1 (h0 : (y.length == 0) = false) (h1 : x.length ≤ 16777216) (h2 : (Builtin.Str.partsBetween x (Builtin.Str.occurrences x y 0 x.length (x.length + 1)) y.length).length ≤ 16777216) (ho : TE K ρ (eval o K.env) σ (.str x) σ₁) (hl : TA K ρ args pos σ₁ [.str y] σ₂)
    (hf : (unstarred args && decide (args.length < 30) && (apos.endLine == pos.line)) = true := by rfl) (hb : attributeBase o "split" K.env (eval o K.env) = eval o K.env := by rfl) : TE K ρ (eval (.Call (.Attribute o "split" apos) args [] pos) K.env) σ (.lst ((Txt.split x y).map .str)) σ₂ :=
  TE_meth mf_split has_str ho hl (fun p ⟨t, e⟩ ⟨_, _, ⟨u, e2⟩, e'⟩ => by cases e; cases e2; cases e'; exact split1_ok p.I h0 h1 h2) hf hb
theorem TE_count (ho : TE K ρ (eval o K.env) σ (.str x) σ₁) (hl : TA K ρ args pos σ₁ [.str y] σ₂) (hf : (unstarred args && decide (args.length < 30) && (apos.endLine == pos.line)) = true := by rfl) (hb : attributeBase o "count" K.env (eval o K.env) = eval o K.env := by rfl) : TE K ρ (eval (.Call (.Attribute o "count" apos) args [] pos) K.env) σ (.int (Txt.count x y)) σ₂ :=
  TE_meth mf_count has_str ho hl (fun p ⟨t, e⟩ ⟨_, _, ⟨u, e2⟩, e'⟩ => by cases e; cases e2; cases e'; exact SC.count (out_int p.I _ _ _)) hf hb
theorem TE_tindex {ss : List Str} {j : Nat} (hj : ss[j]? = some y) (hno : ∀ m, m < j → ss[m]? ≠ some y) (ho : TE K ρ (eval o K.env) σ (.tup (ss.map .str)) σ₁) (hl : TA K ρ args pos σ₁ [.str y] σ₂) (hf : (unstarred args && decide (args.length < 30) && (apos.endLine == pos.line)) = true := by rfl) (hb : attributeBase o "index" K.env (eval o K.env) = eval o K.env := by rfl) :
    TE K ρ (eval (.Call (.Attribute o "index" apos) args [] pos) K.env) σ (.int (j : Int)) σ₂ :=
  TE_meth mf_tindex has_tup ho hl (fun p ro ⟨_, _, ⟨u, e2⟩, e'⟩ => by
    subst e2 e'
    obtain ⟨b, vs, n, z, r⟩ := ro
    obtain ⟨ts, e1, e2⟩ := repL_strs r
    subst e1 e2
    obtain ⟨h1, hlt, h2, h3⟩ := strs_find (u := u) hj hno
    exact tuple_index_call ⟨_, z.is, rfl, n, rfl⟩ h1 hlt h2 h3 (out_int p.I _ _ _)) hf hb
theorem TE_append (hn : σ₁[n]? = some (.lst l)) (hn2 : σ₂[n]? = some (.lst l)) (hz : l.length ≤ 16777216) (ho : TE K ρ (eval o K.env) σ (.loc n) σ₁) (hl : TA K ρ args pos σ₁ [d] σ₂) (hf : (unstarred args && decide (args.length < 30) && (apos.endLine == pos.line)) = true := by rfl) (hb : attributeBase o "append" K.env (eval o K.env) = eval o K.env := by rfl) :
    TE K ρ (eval (.Call (.Attribute o "append" apos) args [] pos) K.env) σ .none (σ₂.set n (.lst (l ++ [d]))) :=
  TE_meth mf_append (has_lst (.o hn)) ho hl (fun p ro ⟨v, _, rv, e'⟩ => by
    subst e'
    obtain ⟨aa, em, vs, k, z, r⟩ := ob_at p.I hn2 ro
    refine wpAny_list_append_plain (items := vs.toArray) ⟨k, z.is⟩ (fun h' hp hs => ?_) (by rw [sizeLine_is, List.size_toArray, r.length]; exact hz)
    obtain ⟨n', e'⟩ := hp
    exact (lst_upd (t := _) p.I z em hs (vs' := vs ++ [v]) (k' := n') (by show _ = some ({ cls := .type "list", data := .seq (vs ++ [v]).toArray n' } : Obj); rw [← List.push_toArray]; exact e') (r.append (m := [d]) ⟨v, [], rv, rfl⟩)).out (d := .none) rfl) hf hb
theorem TE_pop0 (hn : σ₁[n]? = some (.lst (d :: l))) (hn2 : σ₂[n]? = some (.lst (d :: l))) (hz : l.length ≤ 1000000) (ho : TE K ρ (eval o K.env) σ (.loc n) σ₁) (hl : TA K ρ args pos σ₁ [.int 0] σ₂) (hf : (unstarred args && decide (args.length < 30) && (apos.endLine == pos.line)) = true := by rfl) (hb : attributeBase o "pop" K.env (eval o K.env) = eval o K.env := by rfl) :
    TE K ρ (eval (.Call (.Attribute o "pop" apos) args [] pos) K.env) σ d (σ₂.set n (.lst l)) :=
  TE_meth mf_pop (has_lst (.o hn)) ho hl (fun p ro ⟨v, _, ⟨u, e2⟩, e'⟩ => by
    subst e2 e'
    obtain ⟨aa, em, vs, k, z, y, rest, r1, r2⟩ := ob_at p.I hn2 ro
    have hlen := r2.length
    refine call_meets PySem.F.slot_list_pop ⟨_, z.is, rfl⟩ PySem.F.entry_list_pop (PySem.F.args_list_pop_2 _ _) (MeetsSeq.list_pop_at aa (y :: rest).toArray k 0 u 0 y (by decide) (by simp [seqIndex?]) rfl (by rw [sizeLine_is, List.size_toArray, List.length_cons]; omega)) ⟨z.is, ?_⟩
    obtain ⟨k', e'⟩ := isL_update (ws := rest) (f := fun xs => xs.eraseIdxIfInBounds 0) z.is (by rw [List.eraseIdxIfInBounds_toArray]; rfl)
    exact (lst_upd (t := _) p.I z em (Heap.SameBut.update ..) e' r2).out r1) hf hb
theorem get_call {κ : Type} [DecidableEq κ] {C : Cx} {A : Around} {w : W} {E : Value → Shared → Prop} {knd : KeyKind C.prog C.w κ} {p : Addr} {o : Obj} {t : Tag} {kvs : List (κ × Value)} {l : List (κ × D)} {k : κ} {kv v2 : Value} {e : D} (I : Inv C σ w) (hk : knd.is k kv = true) (ne : p ≠ sysModules) (z : At w t p o) (d : o.IsDictOf knd kvs) (r : RepK C w l kvs) (r2 : Rep C w e v2) :
    wpAny C.M A (call (.builtin "dict.get") [.ref p, kv, v2]) (Out C w σ ((kget l k).getD e)) E w.s := by
  have hd : w.s.heap.DictOf knd p kvs := Heap.dictOf_iff.mpr ⟨o, z.is, d⟩
  refine call_meetsIn PySem.F.slot_dict_get hd.typeIs PySem.F.entry_dict_get (PySem.F.args_dict_get_3 _ _ _) (meets_dict_get_default knd p (k := k) hk (ref_sys ne) v2) ⟨_, hd.mapOf, ?_⟩
  rcases kget_K k r with ⟨e1, e2⟩ | ⟨d, v, e1, e2, rv⟩
  · rw [e1, e2]; exact out_rep I r2 _
  · rw [e1, e2]; exact out_rep I rv _
theorem TE_getS {l : List (Str × D)} {k : Str} {e : D} (i : IsS σ₁ a l) (i2 : IsS σ₂ a l) (ho : TE K ρ (eval o K.env) σ a σ₁) (hl : TA K ρ args pos σ₁ [.str k, e] σ₂) (hf : (unstarred args && decide (args.length < 30) && (apos.endLine == pos.line)) = true := by rfl) (hb : attributeBase o "get" K.env (eval o K.env) = eval o K.env := by rfl) :
    TE K ρ (eval (.Call (.Attribute o "get" apos) args [] pos) K.env) σ ((kget l k).getD e) σ₂ :=
  TE_meth mf_get (has_ds i) ho hl (fun p ro ⟨v, _, ⟨u, e1⟩, v2, _, r2, e'⟩ => by
    subst e1 e'
    obtain ⟨u1, b, o, kvs, ne, z, d, r⟩ := i2.at p.I ro
    exact get_call p.I (strKind_is _ _ _ _) ne z d (repS_K l ▸ r) r2) hf hb
theorem TE_getI {l : List (Int × D)} {k : Int} {e : D} (i : IsI σ₁ a l) (i2 : IsI σ₂ a l) (ho : TE K ρ (eval o K.env) σ a σ₁) (hl : TA K ρ args pos σ₁ [.int k, e] σ₂) (hf : (unstarred args && decide (args.length < 30) && (apos.endLine == pos.line)) = true := by rfl) (hb : attributeBase o "get" K.env (eval o K.env) = eval o K.env := by rfl) :
    TE K ρ (eval (.Call (.Attribute o "get" apos) args [] pos) K.env) σ ((kget l k).getD e) σ₂ :=
  TE_meth mf_get (has_di i) ho hl (fun p ro ⟨v, _, ⟨u, e1⟩, v2, _, r2, e'⟩ => by
    subst e1 e'
    obtain ⟨u1, b, o, kvs, ne, z, d, r⟩ := i2.at p.I ro
    exact get_call p.I (intKind_is _ _ _ _) ne z d (repI_K l ▸ r) r2) hf hb
theorem TE_update {l m : List (Str × D)} (hn : σ₁[n]? = some (.ds l)) (hn2 : σ₂[n]? = some (.ds l)) (hz : l.length + m.length ≤ 1000000) (ho : TE K ρ (eval o K.env) σ (.loc n) σ₁) (hl : TA K ρ args pos σ₁ [.ds m] σ₂) (hf : (unstarred args && decide (args.length < 30) && (apos.endLine == pos.line)) = true := by rfl) (hb : attributeBase o "update" K.env (eval o K.env) = eval o K.env := by rfl) :
    TE K ρ (eval (.Call (.Attribute o "update" apos) args [] pos) K.env) σ .none (σ₂.set n (.ds (ksets l m))) :=
  TE_meth mf_update (has_ds (.o hn)) ho hl (fun p ro ⟨v, _, rm, e'⟩ => by
    subst e'
    obtain ⟨aa, em, o1, kvs, ne, z, d, r⟩ := ob_at p.I hn2 ro
    obtain ⟨b, o2, kvm, ne2, z2, d2, r2⟩ := rm
    have hne : aa ≠ b := fun q => by have := z.tag; rw [q, z2.tag] at this; cases this
    refine call_meetsIn PySem.F.slot_dict_update (ds_mapOf z d).typeIs PySem.F.entry_dict_update (PySem.F.args_dict_update_2 _ _) (meets_dict_update (strKind K.C.prog K.C.w) aa b hne (ref_sys ne2)) ⟨kvs, kvm, ds_mapOf z d, ds_mapOf z2 d2, by rw [sizeLine_is, repK_len (repS_K l ▸ r), repK_len (repS_K m ▸ r2)]; exact Nat.le_trans hz (by decide), fun h' hd u0 hs => ?_⟩
    exact (ds_upd (t := _) p.I z em ne hs hd (by rw [repS_K]; exact repK_merged (repS_K m ▸ r2) (repS_K l ▸ r) (isDictOf_nodup d))).out (d := .none) rfl) hf hb
end
end Mine
end
section
open PySem PySem.W PyProof.Rows
namespace Mine
theorem fn_ga : typeLookup (.type "function") "__getattribute__" = pure (some (.builtin "object.__getattribute__")) := by rw [typeLookup_type, builtinLookup_eq_fast]; kernel_rfl
theorem fn_ga_none : typeLookup (.type "function") "__getattr__" = pure none := by rw [typeLookup_type, builtinLookup_eq_fast]; kernel_rfl
theorem fn_read : typeLookup (.type "function") "read" = pure none := by rw [typeLookup_type, builtinLookup_eq_fast]; kernel_rfl
theorem slot_fn_ga : Slot "function" "__getattribute__" "object.__getattribute__" :=
  .of (owner := "object") (n := "__getattribute__") (by rw [typeLookup_type, builtinLookup_eq_fast]; kernel_rfl) (by decide +kernel) (by decide +kernel) (by decide +kernel)
    (by first | exact .inl (by decide +kernel) | exact .inr (by decide +kernel)) (by rw [isSubtype_type]; kernel_rfl)
section
variable {prog : Program} {w : World} {A : Around} {E : Value → Shared → Prop} {s : Shared}
theorem fn_find {a dd : Addr} {o : Obj} {fd : FuncData} {m : Str → Option Value} {v : Value} {nm : Str} {Q : Builtin.ObjectAttr.Found → Shared → Prop} (hl : typeLookup (.type "function") nm = pure none) (ho : s.heap.get? a = some o) (hc : o.cls = .type "function") (hf : o.data = .func fd) (hd : o.dict = some dd) (hn : s.heap.Ns dd m) (hv : m nm = some v)
    (h : Q (.value v) s) : wpAny (model prog w) A (Builtin.ObjectAttr.find (.ref a) (.type "function") nm) Q E s := by
  unfold Builtin.ObjectAttr.find
  refine wpAny_bind (wpAny_of_eq hl ?_)
  refine wpAny_bind (m := Builtin.ObjectAttr.getOf none) (wpAny_pure ?_)
  refine wpAny_bind (m := Builtin.ObjectAttr.dataDescriptor? none none) (wpAny_pure ?_)
  dsimp only
  unfold Builtin.ObjectAttr.ownThenClass
  refine wpAny_bind ?_
  show wpAny _ _ (Builtin.ObjectAttr.ownDict a >>= Builtin.ObjectAttr.inDict nm) _ _ s
  refine wpAny_bind ?_
  unfold Builtin.ObjectAttr.ownDict loadHead
  refine wpAny_bind (wpAny_loadPart ho ?_)
  rw [hf]
  show wpAny _ _ (instanceDict a false) _ _ s
  unfold instanceDict
  refine wpAny_bind (wpAny_loadPart ho ?_)
  dsimp only
  rw [hc, hd]
  refine wpAny_pure ?_
  show wpAny _ _ (nsGet dd nm) _ _ s
  refine wpAny_nsGet hn ?_
  rw [hv]
  exact wpAny_bind (wpAny_rule (wpAny_pure h))
theorem fn_getattr {a dd : Addr} {o : Obj} {fd : FuncData} {m : Str → Option Value} {v : Value} {nm : Str} {ex : Bool} {Q : Value → Shared → Prop} (hl : typeLookup (.type "function") nm = pure none) (ho : s.heap.get? a = some o) (hc : o.cls = .type "function") (hf : o.data = .func fd) (hd : o.dict = some dd) (hn : s.heap.Ns dd m) (hv : m nm = some v) (hh : handedIn v = true)
    (h : Q v { s with toks := s.toks + 1 }) : wpAny (model prog w) A (getAttr (.ref a) nm ex) Q E s := by
  have hT : ∀ t, ({ s with toks := t } : Shared).TypeIs (.ref a) "function" := fun t => ⟨_, ho, hc⟩
  unfold getAttr getAttrBy
  refine wpAny_bind (wpAny_mkText (wpAny_holding (wpAny_bind (wpAny_typeOf (hT _) (wpAny_bind (wpAny_of_eq fn_ga ?_))))))
  dsimp only
  rw [if_neg (by decide)]
  unfold getAttrByItsOwn
  refine wpAny_bind (m := hookBefore (.type "function")) (wpAny_pure ?_)
  refine wpAny_bind (wpAny_attempt (wpAny_holding ?_))
  unfold callGetattribute
  rw [if_neg (by simp [onTheHeap])]
  unfold boundAndCalled
  refine wpAny_bind (wpAny_of_eq (slot_fn_ga.bind (.ref a)) ?_)
  refine wpAny_call_entry slot_fn_ga (hT _) F.entry_object_getattribute ?_ (F.args_object_getattribute_2 _ _)
  unfold Builtin.«object.__getattribute__»
  refine wpAny_bind (m := slotArgs "__getattribute__" 1 _) (wpAny_pure ?_)
  dsimp only
  refine wpAny_bind (wpAny_of_eq (a := nm) (by rfl) ?_)
  refine wpAny_bind (wpAny_typeOf (hT _) ?_)
  refine wpAny_bind (fn_find hl ho hc hf hd hn hv ?_)
  refine wpAny_pure ⟨_, rfl, ?_⟩
  show wpAny _ _ (handedOut v) _ _ _
  rw [handedOut_of hh]; exact wpAny_pure h
theorem fn_getmethod {a dd : Addr} {o : Obj} {fd : FuncData} {m : Str → Option Value} {v : Value} {nm : Str} {pl : Sem Bool} {Q : Value × List Value → Shared → Prop} (hl : typeLookup (.type "function") nm = pure none) (ho : s.heap.get? a = some o) (hc : o.cls = .type "function") (hf : o.data = .func fd) (hd : o.dict = some dd) (hn : s.heap.Ns dd m) (hv : m nm = some v) (hh : handedIn v = true)
    (h : Q (v, []) { s with toks := s.toks + 1 }) : wpAny (model prog w) A (getMethod (.ref a) nm pl) Q E s := by
  have hT : s.TypeIs (.ref a) "function" := ⟨_, ho, hc⟩
  unfold getMethod
  refine wpAny_bind (wpAny_specialOf hT fn_ga ?_)
  dsimp only
  rw [if_neg (by decide +kernel)]
  refine wpAny_bind (wpAny_specialOf hT fn_ga_none ?_)
  rw [if_neg (by decide)]
  refine wpAny_bind (wpAny_specialOf hT hl ?_)
  exact wpAny_bind (fn_getattr hl ho hc hf hd hn hv hh (wpAny_pure h))
end
open Builtin Builtin.ObjectAttr
theorem slot_fn_sa : Slot "function" "__setattr__" "object.__setattr__" :=
  .of (owner := "object") (n := "__setattr__") (by rw [typeLookup_type, builtinLookup_eq_fast]; kernel_rfl) (by decide +kernel) (by decide +kernel) (by decide +kernel)
    (by first | exact .inl (by decide +kernel) | exact .inr (by decide +kernel)) (by rw [isSubtype_type]; kernel_rfl)
theorem mro_fn : mroOf (.type "function") = pure [.type "function", .type "object"] := by first | rfl | kernel_rfl
theorem pass_fn (self : Value) : refuseLoop self "__setattr__" [.type "function", .type "object"] = pure () := by first | rfl | kernel_rfl
section
variable {prog : Program} {w : World} {A : Around} {E : Value → Shared → Prop} {s : Shared}
theorem fn_store {a : Addr} {o : Obj} {fd : FuncData} {v : Value} {nm : Str} {tk : Tok} {Q : Fin → Shared → Prop} (hl : typeLookup (.type "function") nm = pure none) (ho : s.heap.get? a = some o) (hc : o.cls = .type "function") (hf : o.data = .func fd) (hd : o.dict = none)
    (h : ∀ d h' tk, s.heap.get? d = none → d ≠ a → h'.Ns d (fun y => if y = nm then some v else none) → h'.get? a = some { o with dict := some d } → (∀ b ob, b ≠ a → s.heap.get? b = some ob → h'.get? b = some ob) → Q (.done (.ret .none)) { s with heap := h', toks := tk }) :
    wpAny (model prog w) A (Builtin.«object.__setattr__» ⟨[.ref a, .str nm tk, v], []⟩) Q E s := by
  have hT : s.TypeIs (.ref a) "function" := ⟨_, ho, hc⟩
  unfold Builtin.«object.__setattr__»
  refine wpAny_bind (m := refuseIfOverridden (.ref a) "__setattr__") ?_
  rw [refuse_eq]
  refine wpAny_bind (wpAny_typeOf hT (wpAny_bind (wpAny_of_eq mro_fn ?_)))
  rw [pass_fn]
  refine wpAny_pure ?_
  refine wpAny_bind (wpAny_of_eq (a := nm) (by rfl) ?_)
  refine wpAny_bind (wpAny_typeOf hT ?_)
  refine wpAny_bind (wpAny_of_eq hl ?_)
  refine wpAny_bind (m := storeTaker? none) (wpAny_pure ?_)
  dsimp only
  unfold storeInOwnDict
  refine wpAny_bind (m := ownStreamTells (.ref a) (.type "function")) (wpAny_pure ?_)
  rw [if_neg (by decide)]
  refine wpAny_bind ?_
  show wpAny _ _ (instanceDict a true) _ _ s
  unfold instanceDict
  refine wpAny_bind (wpAny_loadPart ho ?_)
  dsimp only
  rw [hc, hd]
  dsimp only
  rw [if_neg (by decide +kernel), hf]
  dsimp only
  have hx₁ : (s.heap.push { cls := .type "dict", data := .dict #[] }).get? a = some o := Heap.get?_push_of_some _ ho
  have hxs : a ≠ s.heap.objs.size := Nat.ne_of_lt (Heap.lt_size ho)
  refine wpAny_bind (wpAny_alloc ?_)
  refine wpAny_bind (wpAny_update hx₁ ?_)
  have hdm : dictMade (.type "function") a s.heap.objs.size = pure (some s.heap.objs.size) := by first | rfl | kernel_rfl
  rw [hdm]
  refine wpAny_pure ?_
  dsimp only
  have hgd : ((s.heap.push { cls := .type "dict", data := .dict #[] }).update a fun o => { cls := o.cls, dict := some s.heap.objs.size, data := o.data, slots := o.slots }).get? s.heap.objs.size
      = some { cls := .type "dict", data := .dict #[] } :=
    (Heap.get?_update_ne _ _ _ _ hxs.symm).trans (Heap.get?_push_at rfl rfl)
  have hnd : ((s.heap.push { cls := .type "dict", data := .dict #[] }).update a fun o => { cls := o.cls, dict := some s.heap.objs.size, data := o.data, slots := o.slots }).Ns s.heap.objs.size (fun u0 => none) :=
    ⟨_, #[], _, hgd, rfl, fun e he => absurd he (by simp), fun u0 => rfl⟩
  show wpAny _ _ (storeInDict s.heap.objs.size (.str nm tk) nm v) _ _ _
  unfold storeInDict newKeyGuard
  refine wpAny_bind (wpAny_pure (wpAny_bind (wpAny_nsSet1 (Heap.Ns1.of_empty hnd) fun h' hn' hs => ?_)))
  obtain ⟨oD, esD, epD, hoD, hdD, hcD⟩ := hn'.count (Within.cons nm v Within.nil)
  refine wpAny_bind (wpAny_lookBehind hoD (by rw [hdD]; exact pastItsLine_dict (Nat.le_trans hcD (by rw [List.length_cons, List.length_nil, sizeLine_eq]; omega))) ?_)
  refine wpAny_pure ?_
  refine h s.heap.objs.size h' _ (Heap.fresh0 _) hxs.symm ?_ ?_ fun b ob hbx hb => ?_
  · obtain ⟨o', es, ep, e1, e2, e3, eu, e4⟩ := hn'
    exact ⟨o', es, ep, e1, e2, e3, fun y => by rw [e4 y]⟩
  · refine (hs.2 a hxs).trans (Heap.get?_update_self _ hx₁ ?_)
    have hfr := (Heap.get?_some_iff.mp ho).2
    obtain ⟨oc, od, odt, osl⟩ := o
    cases odt <;> first | rfl | exact hfr
  · exact (hs.2 b (Nat.ne_of_lt (Heap.lt_size hb))).trans ((Heap.get?_update_ne _ _ _ _ hbx).trans (Heap.get?_push_of_some _ hb))
theorem fn_setattr {a : Addr} {o : Obj} {fd : FuncData} {v : Value} {nm : Str} {Q : Unit → Shared → Prop} (hl : typeLookup (.type "function") nm = pure none) (ho : s.heap.get? a = some o) (hc : o.cls = .type "function") (hf : o.data = .func fd) (hd : o.dict = none)
    (h : ∀ d h' tk, s.heap.get? d = none → d ≠ a → h'.Ns d (fun y => if y = nm then some v else none) → h'.get? a = some { o with dict := some d } → (∀ b ob, b ≠ a → s.heap.get? b = some ob → h'.get? b = some ob) → Q () { s with heap := h', toks := tk }) :
    wpAny (model prog w) A (setAttr (.ref a) nm v) Q E s := by
  have hT : ∀ t, ({ s with toks := t } : Shared).TypeIs (.ref a) "function" := fun t => ⟨_, ho, hc⟩
  unfold setAttr
  refine wpAny_bind (wpAny_mkText ?_)
  refine wpAny_bind (wpAny_callSpecial?_slot (hT _) slot_fn_sa ?_)
  refine wpAny_call_entry slot_fn_sa (hT _) F.entry_object_setattr ?_ (F.args_object_setattr_3 _ _ _)
  refine fn_store hl ho hc hf hd fun d h' tk e1 e2 e3 e4 e5 => ⟨_, rfl, ?_⟩
  exact wpAny_pure (h d h' tk e1 e2 e3 e4 e5)
end
section
variable {C : Cx} {w w' : W} {σ σ' : St} {n : Nat} {fs : List (Str × D)} {A : Around} {E : Value → Shared → Prop} {nm : Str} {d : D} {v u : Value}
theorem repN_get {x : Str} : ∀ {l : List (Str × D)} {m : Str → Option Value} {d : D}, RepN C w l m → kget l x = some d → ∃ v, m x = some v ∧ Rep C w d v
  | (j, y) :: l, m, d, r, e => by
    have e : (if j = x then some y else kget l x) = some d := e
    by_cases q : j = x
    · cases (if_pos q).symm.trans e; subst q; exact r.1
    · exact repN_get r.2 ((if_neg q).symm.trans e)
theorem fo_set (hl : typeLookup (.type "function") nm = pure none) (I : Inv C σ w) (hn : σ[n]? = some (.fo [])) (r : Rep C w (.loc n) v) (ru : Rep C w d u) : wpAny C.M A (setAttr v nm u) (fun u0 => Upd C σ w n (.fo [(nm, d)])) E w.s := by
  obtain ⟨a, em, q⟩ := ob_at I hn r
  cases q with
  | di ne => exact absurd rfl ne
  | no o fd z c f dd e =>
  refine fn_setattr hl z.is c f dd fun dx h' tk f1 f2 f3 f4 f5 => ?_
  have hk : ∀ b o, w.tag b ≠ .ob n → w.s.heap.get? b = some o → h'.get? b = some o := fun b o m e => f5 b o (fun q => m (q ▸ z.tag)) e
  have ch : Chg (· = .ob n) w (w.put [dx] (.ob n) h' tk []) := .put fun t m b o y => ⟨fun q => y.alive.no (List.mem_singleton.mp q ▸ f1), hk b o (fun q => m (y.tag.symm.trans q)) y.is⟩
  have x : Step NoF w (w.put [dx] (.ob n) h' tk []) := ch.step (fun q => nomatch q) fun u0 q => nomatch q
  obtain ⟨od, es, ep, e1, e2, e3, e4⟩ := f3
  refine ⟨_, x, I.set' (.inr ⟨rfl, get_lt hn⟩) ch (fun b m => List.mem_singleton.mp m ▸ ⟨od, e1⟩) (fun b ⟨o, e⟩ => ?_) (fun b m q => nomatch (I.dead b (List.mem_singleton.mp m ▸ f1)).symm.trans q) fun a' e' => ?_⟩
  · by_cases q : b = a
    · exact ⟨_, q ▸ f4⟩
    · exact ⟨o, f5 b o q e⟩
  · cases em.symm.trans e'
    refine .di (List.cons_ne_nil _ _) dx _ od fd es ep ⟨(if_neg fun m => f2 (List.mem_singleton.mp m).symm).trans z.tag, f4⟩ c f rfl ⟨if_pos (.head _), e1⟩ e2 e3 ⟨⟨u, ?_, x.rep ru⟩, trivial⟩
    rw [e4]; exact if_pos rfl
end
section
variable {K : Ctx} {ρ : Rho} {σ σ' σ₁ σ₂ σ₃ : St} {d : D} {n : Nat} {o e : Expr} {nm : Str} {apos p pos : Pos} {l : List D} {args : List Expr} {fs : List (Str × D)}
theorem TS_setf (hl : typeLookup (.type "function") nm = pure none) (he : TE K ρ (eval e K.env) σ d σ₁) (ho : TE K ρ (eval o K.env) σ₁ (.loc n) σ₂) (hn : σ₂[n]? = some (.fo [])) (hs : swapsWith e (some (.Attribute o nm p)) pos.line K.env = pure false := by rfl) :
    TS K ρ (exec (.Assign [.Attribute o nm p] e pos) K.env) σ .next ρ (σ₂.set n (.fo [(nm, d)])) := fun u0 u0 q =>
  plainObj_wpAny_Assign_Attribute (he.go q fun v w1 n1 => ho.go n1.p fun vo w2 n2 => wpAny_mono (fo_set hl n2.p.I hn n2.r (n2.x.rep n1.r)) (fun u0 u0 u => u.stmt q (n1.x.trans n2.x)) fun u0 u0 e => e) hs
theorem TE_fcall {j m : Nat} {c : List (Str × D)} {pl : Sem Bool} (h : LamTo K.C m j c l σ₂ d σ') (hj : m ≤ K.k) (hnm : typeLookup (.type "function") nm = pure none) (ho : TE K ρ (eval o K.env) σ (.loc n) σ₁) (hn : σ₁[n]? = some (.fo fs)) (hfs : kget fs nm = some (.lam j c)) (hu : unstarred args = true) (hl : TA K ρ args pos σ₁ l σ₂)
    (he : eval (.Call (.Attribute o nm apos) args [] pos) K.env = (do
      let ov ← eval o K.env
      standAt apos.atName
      let (f, first) ← holding [ov] (getMethod ov nm pl)
      callWith pos f first (backTo pos (starEach args K.env)) (backToKw pos (keywordEach [] K.env))) := by rfl) : TE K ρ (eval (.Call (.Attribute o nm apos) args [] pos) K.env) σ d σ' := fun u0 u0 q => by
  refine methodCall_KW (pl := pl) (ho.go q fun v w1 n1 => ?_) he
  obtain ⟨a, em, r⟩ := ob_at n1.p.I hn n1.r
  cases r with
  | no o fd z c f dd e => subst e; cases hfs
  | di ne dd oo od fd es ep z c f dd' zd e1 sk r =>
  obtain ⟨u, e2, ru⟩ := repN_get r hfs
  refine fn_getmethod hnm z.is c f dd' ⟨od, es, ep, zd.is, e1, sk, fun u0 => rfl⟩ e2 (rep_handed ru) ?_
  have ox := out_rep (t := w1.s.toks + 1) n1.p.I ru
  revert ox
  generalize ({ w1.s with toks := w1.s.toks + 1 } : Shared) = s2
  rintro ⟨w2, x2, I2, r2⟩
  show wpAny K.C.M K.A (callWith pos u [] (backTo pos (starEach args K.env)) []) _ _ _
  obtain ⟨la, lo, ld, e3, lz, l3⟩ := lam_obj r2
  subst e3
  exact Calls.callWith_function (o := lo) (fd := ld) (evalArgs_go hu hl (n1.p.next x2 I2) fun vs w3 x3 p3 r3 => ⟨⟨(x3.keep _ _ lz).is, l3⟩, call_go (q.o.room.less hj) h p3.I (x3.rep r2) r3 fun u s' o => o.after ((n1.x.trans x2).trans x3)⟩)
end
end Mine
end
section
open PySem PySem.W PyProof.Rows
namespace Mine
theorem codeAmong_other {pos : Pos} {a b : Int} {c : Value} (l : List Value) (h : TriplesOk l) (hn : codeAmong pos l = none) (hne : ¬ (a = pos.line ∧ b = pos.col)) : codeAmong pos (l ++ [rawInt a, rawInt b, c]) = none := by
  fun_induction TriplesOk l with
  | case1 =>
    have : (a == (pos.line : Int) && b == (pos.col : Int)) = false := by
      rw [Bool.eq_false_iff]; intro q; rw [Bool.and_eq_true, beq_iff_eq, beq_iff_eq] at q; exact hne q
    simp [codeAmong, rawInt, this]
  | case2 a' t b' u x rest ih =>
    simp only [List.cons_append, codeAmong] at hn ⊢
    split at hn
    · cases hn
    · rename_i q; rw [if_neg q]; exact ih h hn
  | case3 => exact h.elim
inductive CapL (K : Ctx) (ρ : Rho) (scope : Scope) : List (Str × D) → Prop
  | nil : CapL K ρ scope []
  | cons {x : Str} {d : D} {c : List (Str × D)} (i : Nat) (hi : K.ns[i]? = some x) (hr : ρ[i]? = some (some d)) (hb : (K.own.contains i && K.once.contains i && K.fd.scope.names.lookup x == some .cell && scope.names.lookup x == some .free) = true) (r : CapL K ρ scope c) : CapL K ρ scope ((x, d) :: c)
structure TabOk (K : Ctx) (σ : St) (t : Nat) (P : Addr) (ln : List (Nat × Nat)) : Prop where
  hd : ∃ c, K.env.code = .ref c ∧ CodeHd K.C.h0 c P
  ba : K.C.h0.BuiltinsAt K.C.mg P
  at_ : σ[t]? = some (.tab P ln)
section
variable {K : Ctx} {ρ : Rho} {σ σ' : St} {w : W} {params : Arguments} {body : Expr} {scope : Scope} {pos : Pos} {t : Nat} {P : Addr} {ln : List (Nat × Nat)} {E : Value → Shared → Prop} {c : List (Str × D)}
theorem lam_make {name qual : Str} {firstLine : Nat} (T : TabOk K σ t P ln) (hp : ln.contains (pos.line, pos.col) = false) (hfree : (scope.names.all fun p => !(p.2 == .free) || (K.fd.scope.names.lookup p.1 == some .cell || K.fd.scope.names.lookup p.1 == some .free)) = true) (q : Ok K ρ σ w) {Q : Value → Shared → Prop}
    (hq : ∀ w' cl c' ctv oc vs tt, Step NoF w w' → Inv K.C (σ.set t (.tab P (ln ++ [(pos.line, pos.col)]))) w' → ClOk K.env scope.names [] cl → At w' .fz c' oc → oc.data = .fields vs → vs[1]? = some (.str qual tt) →
      Q (.ref w'.s.heap.objs.size) { w'.s with heap := w'.s.heap.push (kla_obj name qual params body scope cl ((K.C.mg "__name__").getD .none) c' ctv) }) : wpAny K.C.M K.A (makeFunction name qual params (.expr body) scope K.env [] [] [] pos firstLine) Q E w.s := by
  have fre : ∀ x, (x, NameKind.free) ∈ scope.names → K.Cl x := fun x m => by
    have := List.all_eq_true.mp hfree _ m
    exact (Bool.or_eq_true_iff.mp this).elim (fun q => nomatch q) fun h => (Bool.or_eq_true_iff.mp h).imp (fun h => (q.o.kd x).trans (eq_of_beq h)) fun h => (q.o.kd x).trans (eq_of_beq h)
  obtain ⟨cl, h1, h2⟩ := closure_ok (scope := scope) (env := K.env) fun x m => q.o.has x (fre x m)
  have keep : ∀ b o, K.C.h0.get? b = some o → w.s.heap.get? b = some o := fun b o e => (q.I.base b o e).is
  obtain ⟨cc, hcode, hhd⟩ := T.hd
  obtain ⟨a, em⟩ : ∃ a, w.mn[t]? = some a := ⟨_, List.getElem?_eq_getElem (q.I.len ▸ get_lt T.at_)⟩
  obtain ⟨eP, ps, z, trip, none_⟩ := q.I.ok t _ a T.at_ em
  subst eP
  have hg : w.s.heap.Ns mainGlobals K.C.mg := by obtain ⟨o, es, ep, e, r⟩ := K.C.glob; exact ⟨o, es, ep, keep _ _ e, r⟩
  have hgP : mainGlobals ≠ a := fun q' => by
    obtain ⟨o, es, ep, e, hd, u1⟩ := hg
    rw [q', z.is] at e; cases e; cases hd
  have hB : w.s.heap.BuiltinsAt K.C.mg a := by
    obtain ⟨bm, o, b1, b2, b3, b4, b5, b6⟩ := T.ba
    exact ⟨bm, o, b1, b2, b3, b4, keep _ _ b5, b6⟩
  refine kla_makeFunction (mg := K.C.mg) h1 q.o.glob hg hcode (hhd.keeps keep) z.is trip (none_ pos fun m => by rw [List.contains_iff_mem.mpr m] at hp; cases hp) hgP hB fun c' ctv h' tk hx hge hlt hrec htb => ?_
  have ch : Chg (· = .ob t) w (w.put [] .fz h' tk []) := .put fun t' m b o y => ⟨List.not_mem_nil, hx b o (fun q => m (by rw [← y.tag, q, z.tag])) y.is⟩
  have x : Step NoF w (w.put [] .fz h' tk []) := ch.step (fun q => nomatch q) fun u0 q => nomatch q
  have I' : Inv K.C (σ.set t (.tab a (ln ++ [(pos.line, pos.col)]))) (w.put [] .fz h' tk []) := q.I.set ch (fun u0 m => nomatch m) (fun b ⟨o, e⟩ => by
    by_cases q : b = a
    · exact ⟨_, q ▸ htb⟩
    · exact ⟨o, hx b o q e⟩) (fun u0 m => nomatch m) fun a' e' => by
    cases em.symm.trans e'
    refine ⟨rfl, _, ⟨z.tag, htb⟩, by rw [Array.toList_append]; exact TriplesOk_snoc _ _ _ _ trip, fun p' hp' => ?_⟩
    rw [Array.toList_append]
    refine codeAmong_other (pos := p') (a := pos.line) (b := pos.col) (c := .ref c') ps.toList trip (none_ p' fun m => hp' (List.mem_append_left _ m)) fun q => hp' (List.mem_append_right _ ?_)
    rw [show p'.line = pos.line from Int.ofNat.inj q.1.symm, show p'.col = pos.col from Int.ofNat.inj q.2.symm]
    exact .head _
  obtain ⟨c₂, oc, vs, tt, e1, e2, e3, e4⟩ := hrec
  cases e1
  exact hq (w.put [] .fz h' tk []) cl c' ctv oc vs tt x I' h2 ⟨q.I.dead c' (dead_of fun ⟨o, e⟩ => Nat.not_lt.mpr hge (Heap.lt_size e)), e2⟩ e3 e4
theorem capL_rep {cl : List (Str × Addr)} {w' : W} (q : Ok K ρ σ w) (x : Step NoF w w') (h2 : ClOk K.env scope.names [] cl) : ∀ {c : List (Str × D)}, CapL K ρ scope c → RepC K.C w' c cl
  | _, .nil => trivial
  | _, .cons i hi hr hb r => by
    rw [Bool.and_eq_true, Bool.and_eq_true, Bool.and_eq_true, List.contains_iff_mem, List.contains_iff_mem, beq_iff_eq, beq_iff_eq] at hb
    obtain ⟨⟨⟨b1, b2⟩, b3⟩, b4⟩ := hb
    have hk := (q.o.kd _).trans b3
    obtain ⟨c, ec⟩ := h2.has _ (mem_of_lookup b4)
    obtain ⟨e1, u1⟩ := (h2.from' _ _ ec).elim id fun q => nomatch q
    obtain ⟨o, ov, t, z, e2, u1, u2, val, own⟩ := q.V.cel _ c e1
    obtain ⟨v, e3, rv⟩ := val i _ hi (.inl hk) hr
    have ht : t = .fz := (own i b1 hi hk).trans (by unfold Ctx.tagOf; rw [hr]; exact if_pos b2)
    subst ht e3
    exact ⟨⟨c, o, v, ec, x.keep _ _ z, e2, x.rep rv⟩, capL_rep q x h2 r⟩
theorem TE_lam {j : Nat} (T : TabOk K σ t P ln) (hp : ln.contains (pos.line, pos.col) = false) (hLT : K.C.LT j ⟨params, body, scope⟩) (hc : CapL K ρ scope c) (hfree : (scope.names.all fun p => !(p.2 == .free) || (K.fd.scope.names.lookup p.1 == some .cell || K.fd.scope.names.lookup p.1 == some .free)) = true)
    (hall : (scope.names.all fun p => !(p.2 == .free) || (c.map (·.1)).contains p.1) = true) (hdef : defaultsOf params K.env = ([], []) := by rfl) : TE K ρ (eval (.Lambda params body scope pos) K.env) σ (.lam j c) (σ.set t (.tab P (ln ++ [(pos.line, pos.col)]))) := fun u0 u0 q =>
  kla_eval hdef (lam_make T hp hfree q fun w' cl c' ctv oc vs tt x I' h2 zc e3 e4 => by
    have g := grown (h := w'.s.heap.push (kla_obj "<lambda>" (K.env.qual ++ "<lambda>") params body scope cl ((K.C.mg "__name__").getD .none) c' ctv)) I' w'.s.toks fun b o e => Heap.get?_push_of_some _ e
    have hg : (w'.s.heap.push (kla_obj "<lambda>" (K.env.qual ++ "<lambda>") params body scope cl ((K.C.mg "__name__").getD .none) c' ctv)).get? w'.s.heap.objs.size = some (kla_obj "<lambda>" (K.env.qual ++ "<lambda>") params body scope cl ((K.C.mg "__name__").getD .none) c' ctv) := Heap.get?_push_size _ rfl
    have df := I'.dead _ (Heap.fresh0 w'.s.heap)
    revert g
    show Grown _ _ _ _ { w'.s with heap := w'.s.heap.push (kla_obj "<lambda>" (K.env.qual ++ "<lambda>") params body scope cl ((K.C.mg "__name__").getD .none) c' ctv) } → _
    generalize ({ w'.s with heap := w'.s.heap.push (kla_obj "<lambda>" (K.env.qual ++ "<lambda>") params body scope cl ((K.C.mg "__name__").getD .none) c' ctv) } : Shared) = s2
    rintro ⟨w2, x2, I2, e2, tg⟩
    refine ⟨w2, x.trans x2, I2, _, _, _, c', oc, _, ⟨(tg _).trans df, e2 ▸ hg⟩, rfl, x2.keep _ _ zc, ⟨hLT, rfl, rfl, rfl, rfl, rfl, rfl, rfl, rfl, ⟨vs, tt, e3, e4⟩, fun y a e => ?_⟩, capL_rep q (x.trans x2) h2 hc⟩
    obtain ⟨u1, m⟩ := (h2.from' y a e).elim id fun q => nomatch q
    have := (Bool.or_eq_true_iff.mp (List.all_eq_true.mp hall _ m)).elim (fun q => nomatch q) fun h => List.contains_iff_mem.mp h
    obtain ⟨⟨y', d⟩, m', e'⟩ := List.mem_map.mp this
    cases e'
    exact ⟨d, m'⟩)
theorem TE_lam0 (T : TabOk K σ t P ln) (hp : ln.contains (pos.line, pos.col) = false) (hfree : (scope.names.all fun p => !(p.2 == .free) || (K.fd.scope.names.lookup p.1 == some .cell || K.fd.scope.names.lookup p.1 == some .free)) = true) (hdef : defaultsOf params K.env = ([], []) := by rfl) :
    TE K ρ (eval (.Lambda params body scope pos) K.env) σ (.loc (σ.set t (.tab P (ln ++ [(pos.line, pos.col)]))).length) (σ.set t (.tab P (ln ++ [(pos.line, pos.col)])) ++ [.fo []]) := fun u0 u0 q =>
  kla_eval hdef (lam_make T hp hfree q fun w' cl c' ctv oc vs tt x I' h2 zc e3 e4 => (out_new (t := w'.s.toks) (c := .fo []) I' rfl fun w2 M z => .no _ _ z rfl rfl rfl rfl).after x)
end
end Mine
end
section
open PySem PySem.W PyProof.Rows
namespace Mine
theorem slot_cit_next : Slot "callable_iterator" "__next__" "callable_iterator.__next__" :=
  .of (owner := "callable_iterator") (n := "__next__") (by rw [typeLookup_type, builtinLookup_eq_fast]; kernel_rfl) (by decide +kernel) (by decide +kernel) (by decide +kernel)
    (by first | exact .inl (by decide +kernel) | exact .inr (by decide +kernel)) (by rw [isSubtype_type]; kernel_rfl)
theorem slot_cit_iter : Slot "callable_iterator" "__iter__" "callable_iterator.__iter__" :=
  .of (owner := "callable_iterator") (n := "__iter__") (by rw [typeLookup_type, builtinLookup_eq_fast]; kernel_rfl) (by decide +kernel) (by decide +kernel) (by decide +kernel)
    (by first | exact .inl (by decide +kernel) | exact .inr (by decide +kernel)) (by rw [isSubtype_type]; kernel_rfl)
theorem entry_cit_next : entryFor table "callable_iterator.__next__" = some Builtin.«callable_iterator.__next__» := entryFor_of_tree (by kernel_rfl)
theorem entry_cit_iter : entryFor table "callable_iterator.__iter__" = some Builtin.«dict_keyiterator.__iter__» := entryFor_alias (id' := "dict_keyiterator.__iter__") (by kernel_rfl) rfl (by decide +kernel) (by kernel_rfl)
theorem args_cit_next (a : Value) : argsOk "callable_iterator.__next__" ⟨[a], []⟩ := by unfold argsOk; kernel_rfl
theorem args_cit_iter (a : Value) : argsOk "callable_iterator.__iter__" ⟨[a], []⟩ := by unfold argsOk; kernel_rfl
section
variable {M : Model} {A : Around} {E : Value → Shared → Prop} {s : Shared}
theorem wpAny_callBorrowed {f : Value} {pos : List Value} {Q : Value → Shared → Prop}
    (hc : codeAny M A (.call f ⟨pos, []⟩) (fun r s' => match r with | .ok (.ret v) => Q v s' | .ok _ => False | .error e => E e s') s) : wpAny M A (callBorrowed f pos) Q E s := fun Γ p hΓ => by
  unfold callBorrowed
  rw [Sem.wp]
  refine wpCode_mono (fun r s' h => ?_) (hc _ p rfl (hΓ.enter _ none p (by intro x; cases x)))
  cases r with
  | error e => exact h
  | ok fl => cases fl <;> exact h
end
theorem meth_call : typeLookup (.type "method") "__call__" = pure (some (.builtin "method.__call__")) := by rw [typeLookup_type, builtinLookup_eq_fast]; kernel_rfl
theorem args_iter2 (a b : Value) : argsOk "iter" ⟨[a, b], []⟩ := by unfold argsOk; kernel_rfl
structure BoundFacts (C : Cx) (c : Addr) (nm : Str) (f : Addr) : Prop where
  hga : findIn C.K (.ref c) "__getattribute__" = some (some (.builtin "object.__getattribute__"))
  hk : findIn C.K (.ref c) "__getattr__" = some none
  hh : hasDictIn C.K c = true
  ha : findIn C.K (.ref c) nm = some (some (.ref f))
  fn : typeIn C.K (.ref f) = some (.type "function")
  hgf : specialIn C.K (.ref f) "__get__" = some (some (.builtin "function.__get__"))
  ht : takesIn C.K (.ref f) = some false
  hc : copiedNames.contains nm = false
section
variable {A : Around} {E : Value → Shared → Prop} {s : Shared}
theorem cit_borrows {bm x fr : Addr} {o : Obj} {fd : FuncData} {prog : Program} {w : World} (h1 : s.heap.get? bm = some (bmObj fr x)) (h2 : s.heap.get? fr = some o) (h3 : o.data = .func fd) {Q : Bool → Shared → Prop} (h : Q true s) : wpAny (model prog w) A (borrowsExactly (.ref bm)) Q E s := by
  unfold borrowsExactly
  refine wpAny_bind (wpAny_load h1 ?_)
  dsimp only
  rw [if_pos (by decide)]
  show wpAny _ _ (load fr >>= _) _ _ _
  refine wpAny_bind (wpAny_load h2 ?_)
  rw [h3]
  exact wpAny_pure h
end
section
variable {C : Cx} {A : Around} {w w' : W} {σ σ' σ₁ : St} {n m k : Nat} {E : Value → Shared → Prop} {y : Str} {v : Value}
inductive Nc (C : Cx) (k n : Nat) : Unit → St → Option D → Unit → St → Prop
  | some {σ σ₁ : St} {y : Str} {m m' : Nat} (h : σ[n]? = some (.cit m true)) (f : FnTo C k C.rc [.loc m] σ (.str y) σ₁) (h' : σ₁[n]? = some (.cit m' true)) (hy : y ≠ Str.empty) : Nc C k n () σ (some (.str y)) () σ₁
  | stop {σ σ₁ : St} {m m' : Nat} (h : σ[n]? = some (.cit m true)) (f : FnTo C k C.rc [.loc m] σ (.str Str.empty) σ₁) (h' : σ₁[n]? = some (.cit m' true)) : Nc C k n () σ none () (σ₁.set n (.cit m' false))
  | off {σ : St} {m : Nat} (h : σ[n]? = some (.cit m false)) : Nc C k n () σ none () σ
theorem cit_run (hf : IsFn C C.rc) (R : Rm (k + 1) A) (f : FnTo C k C.rc [.loc m] σ (.str y) σ₁) (I : Inv C σ w) (hn : σ[n]? = some (.cit m true)) (r : Rep C w (.loc n) v) {m' : Nat} (hn1 : σ₁[n]? = some (.cit m' true)) {Q : Option Value → Shared → Prop}
    (h1 : ∀ w1 t, y ≠ Str.empty → Step NoF w w1 → Inv C σ₁ w1 → Q (some (.str y t)) w1.s) (h0 : ∀ w1, y = Str.empty → Step NoF w w1 → Inv C (σ₁.set n (.cit m' false)) w1 → Q none w1.s) : wpAny C.M A (pyNext v) Q E w.s := by
  obtain ⟨fo, fdd, hfo, hfd⟩ := hf.fo
  obtain ⟨a, em, bm, t, x, z, zb, ex⟩ := ob_at I hn r
  have hT : w.s.TypeIs (.ref a) "callable_iterator" := ⟨_, z.is, rfl⟩
  unfold pyNext
  refine wpAny_bind (wpAny_attempt (wpAny_callSpecial?_slot (name := Str.ofString "__next__") hT slot_cit_next (wpAny_call_entry slot_cit_next hT entry_cit_next ?_ (args_cit_next _))))
  unfold Builtin.«callable_iterator.__next__»
  refine wpAny_bind (m := slotArgs "__next__" 0 _) (wpAny_pure ?_)
  refine wpAny_bind (wpAny_field z.is rfl (x := .bool false) rfl ?_)
  rw [if_neg (by decide)]
  refine wpAny_bind (wpAny_field z.is rfl (x := .ref bm) rfl ?_)
  refine wpAny_bind (wpAny_attempt ?_)
  unfold callOutOfASlot
  refine wpAny_bind (cit_borrows zb.is (I.base _ _ hfo).is hfd ?_)
  rw [if_pos rfl]
  refine wpAny_callBorrowed (ks_codeAny_call_bound zb.is ?_)
  refine f (A := A.in1) R.in1 I rfl ⟨_, [], ⟨x, ex, rfl⟩, rfl⟩ fun u s1 o => ?_
  obtain ⟨w1, x1, I1, t', e'⟩ := o
  subst e'
  dsimp only
  obtain ⟨a', em', bm', t2, x', z', zb', ex'⟩ := ob_at I1 hn1 (x1.rep r)
  refine wpAny_bind (wpAny_field z'.is rfl (x := .bool false) rfl ?_)
  rw [if_neg (by decide)]
  refine wpAny_bind (wpAny_field z'.is rfl (x := .str Str.empty t2) rfl ?_)
  refine wpAny_bind (wpAny_holding (wpAny_eqBool_str ?_))
  by_cases hy : y = Str.empty
  · subst hy
    rw [if_neg (by decide)]
    refine wpAny_bind (wpAny_rule (wpAny_bind ?_))
    show wpAny _ _ (field (.ref a) 0 >>= fun old => slotLetsGo "callable_iterator.__next__" old _ >>= fun u0 => setField (.ref a) 0 .none >>= fun u0 => setField (.ref a) 1 .none >>= fun u0 => setField (.ref a) 2 (.bool true)) _ _ _
    refine wpAny_bind (wpAny_field z'.is rfl (x := .ref bm') rfl ?_)
    refine wpAny_bind ?_
    unfold slotLetsGo
    refine wpAny_bind (cit_borrows zb'.is (I1.base _ _ hfo).is hfd ?_)
    rw [if_pos rfl]
    refine wpAny_pure ?_
    refine wpAny_bind (wpAny_setField_rec z'.is (Nat.lt_of_lt_of_le (by decide : _ < 3) (Nat.le_of_eq (by rfl))) fun h3 e3 hs3 => ?_)
    refine wpAny_bind (wpAny_setField_rec e3 (Nat.lt_of_lt_of_le (by decide : _ < 3) (Nat.le_of_eq (by rfl))) fun h4 e4 hs4 => ?_)
    refine wpAny_setField_rec e4 (Nat.lt_of_lt_of_le (by decide : _ < 3) (Nat.le_of_eq (by rfl))) fun h5 e5 hs5 => ?_
    refine wp_stop (A := A.in1) R.handled fun h6 e hk hx => ?_
    obtain ⟨oe, hoe, hce⟩ := hx
    refine wpAny_bind (wpAny_isInstance (T := "StopIteration") (b := true) ⟨oe, hoe, hce⟩ isSubtype_stop ?_)
    have hga : h6.get? a = some citEnd := hk _ _ e5
    have u := ob_upd (t := w1.s.toks) (co := .cit m' false) I1 z' hga (fun b o hb q => hk _ _ ((hs5.2 b hb).trans ((hs4.2 b hb).trans ((hs3.2 b hb).trans q)))) fun M a2 q => by cases em'.symm.trans q; exact ⟨z'.tag, hga⟩
    revert u
    show Upd _ _ _ _ _ { w1.s with heap := h6 } → wpAny _ _ _ _ _ { w1.s with heap := h6 }
    generalize ({ w1.s with heap := h6 } : Shared) = s6
    rintro ⟨w2, x2, I2⟩
    exact wpAny_pure (h0 w2 rfl (x1.trans x2) I2)
  · rw [if_pos (by rw [Bool.not_eq_true']; exact decide_eq_false fun q => hy q.symm)]
    exact wpAny_pure ⟨_, rfl, wpAny_pure (h1 w1 t' hy x1 I1)⟩
theorem cit_off (R : Rm k A) (I : Inv C σ w) (hn : σ[n]? = some (.cit m false)) (r : Rep C w (.loc n) v) {Q : Option Value → Shared → Prop} (h : ∀ w1, Step NoF w w1 → Inv C σ w1 → Q none w1.s) : wpAny C.M A (pyNext v) Q E w.s := by
  obtain ⟨a, em, z⟩ := ob_at I hn r
  have z : At w (.ob n) a citEnd := z
  have hT : w.s.TypeIs (.ref a) "callable_iterator" := ⟨_, z.is, rfl⟩
  unfold pyNext
  refine wpAny_bind (wpAny_attempt (wpAny_callSpecial?_slot (name := Str.ofString "__next__") hT slot_cit_next (wpAny_call_entry slot_cit_next hT entry_cit_next ?_ (args_cit_next _))))
  unfold Builtin.«callable_iterator.__next__»
  refine wpAny_bind (m := slotArgs "__next__" 0 _) (wpAny_pure ?_)
  refine wpAny_bind (wpAny_field z.is rfl (x := .bool true) rfl ?_)
  rw [if_pos (by decide)]
  refine wpAny_bind (wpAny_rule (wpAny_bind (wp_stop (A := A.in1) R.handled fun h' e hk hx => ?_)))
  obtain ⟨oe, hoe, hce⟩ := hx
  refine wpAny_bind (wpAny_isInstance (T := "StopIteration") (b := true) ⟨oe, hoe, hce⟩ isSubtype_stop (wpAny_pure ?_))
  exact h (w.put [] .fz h' w.s.toks []) (.grow hk) (I.grow hk)
inductive JC (n : Nat) (it : Addr) (_ : Unit) (w : W) : Prop
  | mk (e : w.mn[n]? = some it) : JC n it () w
theorem itr_cit {target : Expr} {it c : Addr} (hf : IsFn C C.rc) (R : Rm (k + 1) A) (hgo : ∀ v, letOwnedTupleGo target (.ref it) v = pure ()) : ItrL C A target (.ref it) c (JC n it) (Nc C k n) where
  stable := fun ⟨e⟩ x u0 => ⟨x.main _ _ e⟩
  item := by
    rintro _ σ w d _ σ' E I ⟨e⟩ nc
    cases nc with
    | some h f h' hy =>
      refine cit_run hf R f I h ⟨it, e, rfl⟩ h' (fun w1 t u0 x1 I1 => ⟨_, rfl, ?_⟩) fun u0 q => absurd q hy
      rw [hgo]
      exact wpAny_pure ⟨w1, x1.ofN, I1, ⟨x1.main _ _ e⟩, t, rfl⟩
  done := by
    rintro _ σ w _ σ' E I ⟨e⟩ nc
    cases nc with
    | stop h f h' => exact cit_run hf R f I h ⟨it, e, rfl⟩ h' (fun u0 u0 q => absurd rfl q) fun w1 u0 x1 I1 => ⟨rfl, w1, w1.s.heap, w1.s.toks, x1.ofN, I1, fun u0 u0 u0 e => e⟩
    | off h => exact cit_off R I h ⟨it, e, rfl⟩ fun w1 x1 I1 => ⟨rfl, w1, w1.s.heap, w1.s.toks, x1.ofN, I1, fun u0 u0 u0 e => e⟩
end
section
variable {K : Ctx} {ρ ρ' : Rho} {σ σ' σ₁ : St} {n m k : Nat} {target iter : Expr} {body els : List Stmt} {pos : Pos} {fl : Fl} {w : W} {j : Nat}
theorem TS_forc {co : AO} (hf : IsFn K.C K.C.rc) (hk : k + 1 ≤ K.k) (hi : TE K ρ (eval iter K.env) σ (.loc n) σ₁) (hn : σ₁[n]? = some co) (hco : co = .cit m true ∨ co = .cit m false) (r : Run K (Nc K.C k n) target body els j () ρ σ₁ fl ρ' σ') (hgo : ∀ it v, letOwnedTupleGo target (.ref it) v = pure () := by intros; rfl) (hs : ∀ x, foldedSetIterable iter K.env x = pure x := by exact fun u0 => rfl) :
    TS K ρ (exec (.For target iter body els pos) K.env) σ fl ρ' σ' := fun w u0 p =>
  wpAny_For (hi.go p fun v w1 n1 => by
    have hT : ∃ a, w1.mn[n]? = some a ∧ v = .ref a ∧ w1.s.TypeIs (.ref a) "callable_iterator" := by
      rcases hco with rfl | rfl
      · obtain ⟨a, em, bm, t, x, z, u1, u2⟩ := ob_at n1.p.I hn n1.r; exact ⟨a, em, rfl, _, z.is, rfl⟩
      · obtain ⟨a, em, z⟩ := ob_at n1.p.I hn n1.r; exact ⟨a, em, rfl, _, At.is z, rfl⟩
    obtain ⟨a, em, e, hT⟩ := hT
    subst e
    refine wpAny_pyIter_slot hT slot_cit_iter (wpAny_call_entry slot_cit_iter hT entry_cit_iter (wpAny_pure ⟨_, rfl, "callable_iterator", _, hT, slot_cit_next.lookup, ?_⟩) (args_cit_iter _))
    have ng : NoT w mainGlobals := fun b q => by
      obtain ⟨u1, y⟩ := p.I.own b _ q
      obtain ⟨o, es, ep, e, u1⟩ := K.C.glob
      exact nomatch (p.I.base _ _ e).tag.symm.trans y.tag
    exact codeAny_mono (run_loop (itr_cit hf (p.o.room.less hk) (hgo a)) p ng n1.x n1.p.I ⟨em⟩ r) (by rintro r s' ⟨f, rfl, o⟩; exact o)) hs
theorem TE_citer {x : Str} {p apos cp : Pos} {kd : Nat} {o : Expr} {nm : Str} {c : Addr} {fs : List (Str × D)} (hb : Bi K.C x (.builtin "iter")) (hk : K.fd.glob x = true) (Bf : BoundFacts K.C c nm K.C.rc) (ho : TE K ρ (eval o K.env) σ (.loc n) σ₁) (hn : σ₁[n]? = some (.ins c fs)) (hfs : kget fs nm = none)
    (he : eval (.Attribute o nm apos) K.env = (do
      let v ← eval o K.env
      standAt apos.atName
      let r ← holding [v] (getAttr v nm true)
      letTemporaryGo o v r
      pure r) := by rfl) : TE K ρ (eval (.Call (.Name x p) [.Attribute o nm apos, .Constant (.str Str.empty) kd cp] [] pos) K.env) σ (.loc σ₁.length) (σ₁ ++ [.cit n true]) := fun u0 u0 q => by
  have hu : unstarred [.Attribute o nm apos, .Constant (.str Str.empty) kd cp] = true := rfl
  refine wpAny_Call_Name_kw (builtin_ok q hk hb (Calls.callWith_builtin (noStar hu) (evalArgs_spliced (noStar hu) ?_)))
  refine wpAny_items_cons (e := .Attribute o nm apos) (rest := [.Constant (.str Str.empty) kd cp]) (pos := pos) (Attribute_any_ (ho.go q fun v w1 n1 => ?_) he) (starEach_cons rfl)
  obtain ⟨xx, em, dx, es, kk, z, zd, r⟩ := ob_at n1.p.I hn n1.r
  have lk : lookIn nm (dictOf es kk) = some none := by
    rcases repE_look (name := nm) (k := kk) r with ⟨_, e⟩ | ⟨_, _, e, _⟩
    · exact e
    · exact nomatch hfs.symm.trans e
  have X1 : K.C.K.In ({ w1.s with toks := w1.s.toks + 1 } : Shared).heap := n1.p.I.inK
  refine get_bind n1.p.I.inK (instAt z.is zd.is) Bf.hga (findObj_fn Bf.hh Bf.ha Bf.hgf Bf.ht Bf.hc lk) Bf.hk (wpAny_call (fn_get (s := { w1.s with toks := w1.s.toks + 1 }) X1 Bf.fn ?_))
  show wpAny _ _ (handedOut _) _ _ _
  rw [handedOut_of rfl]
  refine wpAny_pure ?_
  have g := grown (h := w1.s.heap.push (methodObj (.ref K.C.rc) (.ref xx))) n1.p.I (w1.s.toks + 1) fun b o e => Heap.get?_push_of_some _ e
  have hbm : (w1.s.heap.push (methodObj (.ref K.C.rc) (.ref xx))).get? w1.s.heap.objs.size = some (bmObj K.C.rc xx) := Heap.get?_push_size _ rfl
  have df := n1.p.I.dead _ (Heap.fresh0 w1.s.heap)
  show wpAny _ _ _ _ _ { w1.s with heap := w1.s.heap.push (methodObj (.ref K.C.rc) (.ref xx)), toks := w1.s.toks + 1 }
  revert g
  generalize ({ w1.s with heap := w1.s.heap.push (methodObj (.ref K.C.rc) (.ref xx)), toks := w1.s.toks + 1 } : Shared) = s2
  rintro ⟨w2, x2, I2, e2, tg⟩
  have zb : At w2 .fz w1.s.heap.objs.size (bmObj K.C.rc xx) := ⟨(tg _).trans df, e2 ▸ hbm⟩
  show wpAny _ _ _ (fun vs => _) _ _
  generalize w1.s.heap.objs.size = bm at zb
  refine wpAny_items_cons (e := .Constant (.str Str.empty) kd cp) (rest := []) (pos := pos) (wpAny_Constant_str (wpAny_items_nil (pos := pos) ?_)) rfl
  obtain ⟨w3, hs3, x3, I3⟩ : ∃ w3 : W, w3.s = { w2.s with toks := w2.s.toks + 1 } ∧ Step NoF w2 w3 ∧ Inv K.C σ₁ w3 := ⟨w2.put [] .fz w2.s.heap (w2.s.toks + 1) [], rfl, .grow fun u0 u0 e => e, I2.grow fun u0 u0 e => e⟩
  rw [← hs3]
  have zb3 := x3.keep _ _ zb
  refine Calls.call_function_entry (by decide +kernel) (by decide +kernel) kdk_entry_iter (args_iter2 _ _) ?_
  unfold Builtin.«iter»
  refine wpAny_bind (m := someArgs "iter" 1 2 _) (wpAny_of_eq (a := [Value.ref bm, .str Str.empty _]) (by first | rfl | kernel_rfl!) ?_)
  dsimp only
  refine wpAny_bind (wpAny_specialOf (name := Str.ofString "__call__") ⟨_, zb3.is, rfl⟩ meth_call ?_)
  rw [if_neg (by decide)]
  have x13 := (n1.x.trans x2).trans x3
  exact wpAny_bind (wpAny_rule (wpAny_bind (wpAny_newObj_type (wpAny_pure ⟨_, rfl, (out_new (t := w3.s.toks) (c := .cit n true) I3 rfl fun w4 M z => ⟨bm, _, xx, z, M.keep _ _ zb3, M.main _ _ (x3.main _ _ (x2.main _ _ em))⟩).after x13⟩))))
end
end Mine
end
section
open PySem PySem.W PyProof.Rows
namespace Mine
structure End where
  fl : Fl
  ρ : Rho
  σ : St
section
variable {K : Ctx} {ι α β : Type} {N : ι → St → Option D → ι → St → Prop} {target test : Expr} {body els : List Stmt}
inductive Turn (K : Ctx) {ι β : Type} (N : ι → St → Option D → ι → St → Prop) (target : Expr) (body els : List Stmt) (P : β → Prop) (m : β → Nat) (i : β → ι) (R : β → Rho) (S : β → St) (F : β → End) (b : β) : Prop
  | done (i' : ι) (σ₁ : St) (h : N (i b) (S b) none i' σ₁) (e : TS K (R b) (execs els K.env) σ₁ (F b).fl (F b).ρ (F b).σ)
  | next (b' : β) (d : D) (σ₁ : St) (ρ₁ : Rho) (hP : P b') (hm : m b' < m b) (hF : F b' = F b) (h : N (i b) (S b) (some d) (i b') σ₁) (a : Asg K target d (R b) ρ₁) (fl : Fl) (hfl : fl = .next ∨ fl = .cont) (t : TS K ρ₁ (execs body K.env) σ₁ fl (R b') (S b'))
  | brk (i' : ι) (d : D) (σ₁ : St) (ρ₁ : Rho) (hf : (F b).fl = .next) (h : N (i b) (S b) (some d) i' σ₁) (a : Asg K target d (R b) ρ₁) (t : TS K ρ₁ (execs body K.env) σ₁ .brk (F b).ρ (F b).σ)
  | ret (i' : ι) (d e : D) (σ₁ : St) (ρ₁ : Rho) (hf : (F b).fl = .ret e) (h : N (i b) (S b) (some d) i' σ₁) (a : Asg K target d (R b) ρ₁) (t : TS K ρ₁ (execs body K.env) σ₁ (.ret e) (F b).ρ (F b).σ)
theorem Run.wf {P : β → Prop} {m : β → Nat} {i : β → ι} {R : β → Rho} {S : β → St} {F : β → End} (H : ∀ b, P b → Turn K N target body els P m i R S F b) : ∀ (n : Nat) (b : β), P b → m b ≤ n → Run K N target body els n (i b) (R b) (S b) (F b).fl (F b).ρ (F b).σ
  | n, b, p, hm => by
    cases H b p with
    | done i' σ₁ h e => exact .done h e
    | next b' d σ₁ ρ₁ hP hl hF h a fl hfl t =>
      cases n with
      | zero => exact absurd (Nat.lt_of_lt_of_le hl hm) (Nat.not_lt_zero _)
      | succ n =>
        have r := Run.wf H n b' hP (Nat.le_of_lt_succ (Nat.lt_of_lt_of_le hl hm))
        rw [hF] at r
        cases hfl with
        | inl q => subst q; exact .next h a t r
        | inr q => subst q; exact .cont h a t r
    | brk i' d σ₁ ρ₁ hf h a t => rw [hf]; exact .brk h a t
    | ret i' d e σ₁ ρ₁ hf h a t => rw [hf]; exact .ret h a t
theorem Run.scan {e : α → D} (R : List α → Rho) (S : List α → St) : ∀ (xs pre : List α), (∀ pre' x todo, pre ++ xs = pre' ++ x :: todo → ∃ ρ₁ fl, Asg K target (e x) (R pre') ρ₁ ∧ (fl = .next ∨ fl = .cont) ∧ TS K ρ₁ (execs body K.env) (S pre') fl (R (pre' ++ [x])) (S (pre' ++ [x]))) →
    Run K Nl target body [] xs.length (xs.map e) (R pre) (S pre) .next (R (pre ++ xs)) (S (pre ++ xs))
  | [], pre, _ => by rw [List.append_nil]; exact .done (.none _) TS_nil
  | x :: xs, pre, h => by
    obtain ⟨ρ₁, fl, a, hfl, t⟩ := h pre x xs rfl
    have r := Run.scan R S xs (pre ++ [x]) (by rw [List.append_assoc]; exact h)
    rw [List.append_assoc] at r
    cases hfl with
    | inl q => subst q; exact .next (.some _ _ _) a t r
    | inr q => subst q; exact .cont (.some _ _ _) a t r
theorem Run.scan0 {e : α → D} {ds : List D} (R : List α → Rho) (S : List α → St) (xs : List α) (hd : ds = xs.map e) (h : ∀ done x todo, xs = done ++ x :: todo → ∃ ρ₁ fl, Asg K target (e x) (R done) ρ₁ ∧ (fl = .next ∨ fl = .cont) ∧ TS K ρ₁ (execs body K.env) (S done) fl (R (done ++ [x])) (S (done ++ [x]))) :
    Run K Nl target body [] xs.length ds (R []) (S []) .next (R xs) (S xs) := hd ▸ Run.scan R S xs [] h
theorem EnvOk.drop {ρ : Rho} {w : W} {i : Nat} (h : K.once.contains i = false) (V : EnvOk K w ρ) : EnvOk K w (ρ.set i none) :=
  have le : Le (ρ.set i none) ρ := fun j d e => by
    by_cases q : i = j
    · subst q
      have := (List.getElem?_eq_some_iff.mp e).1
      rw [List.length_set] at this
      exact nomatch (List.getElem?_set_self this).symm.trans e
    · exact (List.getElem?_set_ne q).symm.trans e
  have tg : ∀ j, K.tagOf (ρ.set i none) j = K.tagOf ρ j := fun j => by
    unfold Ctx.tagOf
    by_cases q : i = j
    · subst q
      have hn : i ∉ K.once := fun m => by rw [List.contains_iff_mem.mpr m] at h; cases h
      rw [if_neg hn]
      cases (ρ.set i none)[i]? with
      | none => cases ρ[i]? with
        | none => rfl
        | some o => cases o <;> rfl
      | some o => cases o <;> cases ρ[i]? with
        | none => rfl
        | some o => cases o <;> rfl
    · rw [List.getElem?_set_ne q]
  ⟨let ⟨o, es, ep, z, e, sk, val⟩ := V.loc; ⟨o, es, ep, z, e, sk, fun i y d a b c => val i y d a b (le i d c)⟩,
   fun y c a => let ⟨o, ov, t, z, e, ne, ht, val, own⟩ := V.cel y c a; ⟨o, ov, t, z, e, ne, ht, fun i d a b c => val i d a b (le i d c), fun i a b c => (own i a b c).trans (tg i).symm⟩, V.ids⟩
theorem TS.fgt {ρ ρ' : Rho} {u : Sem Flow} {σ σ' : St} {fl : Fl} (is : List Nat) (h : TS K ρ u σ fl ρ' σ') (hi : (is.all fun i => !K.once.contains i) = true := by rfl) : TS K ρ u σ fl (is.foldl (fun r i => r.set i none) ρ') σ' := by
  induction is generalizing ρ' with
  | nil => exact h
  | cons i is ih =>
    have hi := Bool.and_eq_true_iff.mp hi
    exact ih (ρ' := ρ'.set i none) (fun u0 u0 p => wpAny_mono (h p) (fun u0 u0 ⟨w1, x1, I1, V1, f⟩ => ⟨w1, x1, I1, V1.drop ((Bool.not_eq_true' _).mp hi.1), f⟩) fun u0 u0 e => e) hi.2
theorem TS_nilf {ρ : Rho} {σ : St} (is : List Nat) (hi : (is.all fun i => !K.once.contains i) = true := by rfl) : TS K ρ (execs [] K.env) σ .next (is.foldl (fun r i => r.set i none) ρ) σ := TS.fgt is TS_nil hi
inductive WTurn (K : Ctx) {β : Type} (test : Expr) (body : List Stmt) (P : β → Prop) (m : β → Nat) (R : β → Rho) (S : β → St) (F : β → Rho × St) (b : β) : Prop
  | done (h : R b = (F b).1) (t : TB K (R b) (isTrue test K.env (eval test K.env)) (S b) false (F b).2)
  | next (b' : β) (σ₁ : St) (hP : P b') (hm : m b' < m b) (hF : F b' = F b) (t : TB K (R b) (isTrue test K.env (eval test K.env)) (S b) true σ₁) (u : TS K (R b) (execs body K.env) σ₁ .next (R b') (S b'))
theorem WRun.wf {P : β → Prop} {m : β → Nat} {R : β → Rho} {S : β → St} {F : β → Rho × St} (H : ∀ b, P b → WTurn K test body P m R S F b) : ∀ (n : Nat) (b : β), P b → m b ≤ n → WRun K test body n (R b) (S b) (F b).1 (F b).2
  | n, b, p, hm => by
    cases H b p with
    | done h t => rw [← h]; exact .done t
    | next b' σ₁ hP hl hF t u =>
      cases n with
      | zero => exact absurd (Nat.lt_of_lt_of_le hl hm) (Nat.not_lt_zero _)
      | succ n =>
        have r := WRun.wf H n b' hP (Nat.le_of_lt_succ (Nat.lt_of_lt_of_le hl hm))
        rw [hF] at r
        exact .next t u r
end
end Mine
end
section
open PySem PySem.W PyProof.Rows
namespace Mine
inductive Frz : AO → D → Prop
  | lst (l : List D) : Frz (.lst l) (.lst l)
  | ds (l : List (Str × D)) : Frz (.ds l) (.ds l)
  | di (l : List (Int × D)) : Frz (.di l) (.di l)
section
variable {C : Cx} {σ : St} {w w' : W} {n : Nat} {c : AO} {d : D} {v : Value} {s : Shared}
theorem frz_put {a : Addr} {o : Obj} (I : Inv C σ w) (z : At w (.ob n) a o) : Step NoF w (w.put [a] .fz w.s.heap w.s.toks []) ∧ Inv C (σ.set n .dead) (w.put [a] .fz w.s.heap w.s.toks []) ∧ At (w.put [a] .fz w.s.heap w.s.toks []) .fz a o := by
  have c : Chg (· = .ob n) w (w.put [a] .fz w.s.heap w.s.toks []) := .put fun t m b o y => ⟨fun q => m (by rw [← y.tag, List.mem_singleton.mp q, z.tag]), y.is⟩
  exact ⟨c.step (fun q => nomatch q) (fun u0 q => nomatch q), I.set c (fun b m => List.mem_singleton.mp m ▸ ⟨o, z.is⟩) (fun u0 e => e) (fun b m q => by rw [List.mem_singleton.mp m, z.tag] at q; cases q) fun u0 u0 => trivial, if_pos (.head _), z.is⟩
theorem Out.frz (h : σ[n]? = some c) (f : Frz c d) : Out C w σ (.loc n) v s → Out C w (σ.set n .dead) d v s
  | ⟨w₂, x, I, a, e, q⟩ => by
    subst q
    have k := I.ok _ _ _ h e
    cases f with
    | lst l =>
      obtain ⟨vs, m, z, r⟩ := k
      obtain ⟨y, I', z'⟩ := frz_put I z
      exact ⟨w₂.put [a] .fz w₂.s.heap w₂.s.toks [], x.trans y, I', a, vs, m, z', RepL.mono y.toMono _ _ r⟩
    | ds l =>
      obtain ⟨o, vs, m, z, dd, r⟩ := k
      obtain ⟨y, I', z'⟩ := frz_put I z
      exact ⟨w₂.put [a] .fz w₂.s.heap w₂.s.toks [], x.trans y, I', a, o, vs, m, z', dd, RepS.mono y.toMono _ _ r⟩
    | di l =>
      obtain ⟨o, vs, m, z, dd, r⟩ := k
      obtain ⟨y, I', z'⟩ := frz_put I z
      exact ⟨w₂.put [a] .fz w₂.s.heap w₂.s.toks [], x.trans y, I', a, o, vs, m, z', dd, RepI.mono y.toMono _ _ r⟩
end
section
variable {K : Ctx} {ρ ρ' : Rho} {σ σ₁ σ₂ : St} {n : Nat} {c : AO} {d d' : D} {t : Sem Value} {u : Sem Flow} {fl : Fl}
theorem TE_frz (h : TE K ρ t σ (.loc n) σ₁) (hn : σ₁[n]? = some c) (f : Frz c d) : TE K ρ t σ d (σ₁.set n .dead) := fun u0 u0 p => wpAny_mono (h p) (fun u0 u0 o => o.frz hn f) fun u0 u0 e => e
theorem ac {e : Expr} {r : List Expr} {l : List D} {pos : Pos} (he : TE K ρ (eval e K.env) σ d σ₁) (hr : TA K ρ r pos σ₁ l σ₂) (hs : unstarred [e] = true := by rfl) : TA K ρ (e :: r) pos σ (d :: l) σ₂ := TL_cons hs he hr
theorem an {pos : Pos} : TA K ρ [] pos σ [] σ := TL_nil
theorem a1 {e : Expr} {pos : Pos} (he : TE K ρ (eval e K.env) σ d σ₁) (hs : unstarred [e] = true := by rfl) : TA K ρ [e] pos σ [d] σ₁ := TL_cons hs he TL_nil
theorem a2 {e e' : Expr} {pos : Pos} (he : TE K ρ (eval e K.env) σ d σ₁) (he' : TE K ρ (eval e' K.env) σ₁ d' σ₂) (hs : unstarred [e] = true := by rfl) (hs' : unstarred [e'] = true := by rfl) : TA K ρ [e, e'] pos σ [d, d'] σ₂ := TL_cons hs he (TL_cons hs' he' TL_nil)
structure Fn (C : Cx) (x : Str) (params : Arguments) (scope : Scope) (body : List Stmt) (fa : Addr) : Prop where
  glb : Glb C x (.ref fa)
  at_ : ∃ c, FnAt C fa params scope body c
theorem call {x : Str} {params : Arguments} {scope : Scope} {body : List Stmt} {fa : Addr} {j : Nat} {l : List D} {args : List Expr} {p pos : Pos} (F : Fn K.C x params scope body fa) (h : FnTo K.C j fa l σ₁ d σ₂) (hl : TA K ρ args pos σ l σ₁) (hj : Nat.ble j K.k = true := by rfl) (hk : K.fd.glob x = true := by kernel_rfl) (hu : unstarred args = true := by rfl) : TE K ρ (eval (.Call (.Name x p) args [] pos) K.env) σ d σ₂ :=
  TE_call h (Nat.le_of_ble_eq_true hj) F.glb (let ⟨_, a⟩ := F.at_; a.isFn) hk hu hl
theorem fn_to {C : Cx} {x : Str} {params : Arguments} {f : Fd} {body : List Stmt} {fa : Addr} {k : Nat} {l : List D} (F : Fn C x params f.scope body fa) (hlim : C.h0.NoLimit) (B : fnB f params [] = true) (st : StoL f (params.args.map (·.arg)) l (List.replicate f.ns.length none) ρ) (b : ∀ c, FnAt C fa params f.scope body c → Body C k f c body ρ σ d σ₁) : FnTo C (k + 1) fa l σ d σ₁ :=
  let ⟨c, a⟩ := F.at_; call_fn hlim a B st (b c a)
theorem tv (i : Nat) {x : Str} {pos : Pos} (hr : ρ[i]? = some (some d)) (h : K.fd.var i x = true := by kernel_rfl) : TE K ρ (eval (.Name x pos) K.env) σ d σ := TE_var h hr
theorem TE.to (h : TE K ρ t σ d σ₁) (e : d = d' ∧ σ₁ = σ₂) : TE K ρ t σ d' σ₂ := e.1 ▸ e.2 ▸ h
theorem TE.val (h : TE K ρ t σ d σ₁) (e : d = d') : TE K ρ t σ d' σ₁ := e ▸ h
theorem TE.st (h : TE K ρ t σ d σ₁) (e : σ₁ = σ₂) : TE K ρ t σ d σ₂ := e ▸ h
theorem TS.st (h : TS K ρ u σ fl ρ' σ₁) (e : σ₁ = σ₂) : TS K ρ u σ fl ρ' σ₂ := e ▸ h
theorem TR.to (h : TR K ρ u σ d σ₁) (e : d = d' ∧ σ₁ = σ₂) : TR K ρ u σ d' σ₂ := e.1 ▸ e.2 ▸ h
theorem TB.to {t : Sem Bool} {a b : Bool} (h : TB K ρ t σ a σ₁) (e : a = b) : TB K ρ t σ b σ₁ := e ▸ h
end
section
variable {α : Type} {l : List α} {a b : α} {n : Nat}
theorem at_len : (l ++ [a])[l.length]? = some a := (List.getElem?_append_right (Nat.le_refl _)).trans (by rw [Nat.sub_self]; rfl)
theorem set_len : (l ++ [a]).set l.length b = l ++ [b] := by rw [List.set_append_right _ _ (Nat.le_refl _), Nat.sub_self]; rfl
theorem at_app (h : l[n]? = some a) : (l ++ [b])[n]? = some a := (List.getElem?_append_left (List.getElem?_eq_some_iff.mp h).1).trans h
theorem at_apps {m : List α} (h : l[n]? = some a) : (l ++ m)[n]? = some a := (List.getElem?_append_left (List.getElem?_eq_some_iff.mp h).1).trans h
end
end Mine
end
section
open PySem PySem.W PyProof.Rows
namespace Mine
structure FnT where
  params : Arguments
  scope : Scope
  body : List Stmt
structure Prt where
  f : FnT
  e : Expr
  b : List Stmt
  o : List Stmt
noncomputable def e0 : Expr := .Constant .none 0 default
noncomputable def f0 : FnT := ⟨⟨[], [], none, [], [], none, []⟩, default, []⟩
noncomputable def prt : Stmt → Prt
  | .FunctionDef _ a b _ _ _ s _ _ _ => ⟨⟨a, s, b⟩, e0, [], []⟩
  | .ClassDef _ _ _ b _ _ _ _ _ _ _ => ⟨f0, e0, b, []⟩
  | .Assign _ e _ => ⟨f0, e, [], []⟩
  | .For _ _ b _ _ => ⟨f0, e0, b, []⟩
  | .If t b o _ => ⟨f0, t, b, o⟩
  | .While t b _ _ => ⟨f0, t, b, []⟩
  | _ => ⟨f0, e0, [], []⟩
noncomputable def fnOf (s : Stmt) : FnT := (prt s).f
noncomputable def methOf (s : Stmt) (k : Nat) : FnT := fnOf ((prt s).b.getD k (.Pass default))
noncomputable def pT (k : Nat) : FnT := fnOf (PySem.Challenge.pw_xc0017_02.main.body.getD k (.Pass default))
noncomputable def pM (k m : Nat) : FnT := methOf (PySem.Challenge.pw_xc0017_02.main.body.getD k (.Pass default)) m
noncomputable def fd4 : Fd := ⟨(pT 4).scope, ["callers", "nc", "calls"], [0, 1, 2], []⟩
theorem fd4_ok : fnB fd4 (pT 4).params [] = true := by kernel_rfl
noncomputable def sumC (l : List (Str × Int)) : Int := (l.map (·.2)).sum
theorem sumC_snoc (l : List (Str × Int)) (p : Str × Int) : sumC (l ++ [p]) = sumC l + p.2 := by unfold sumC; rw [List.map_append, List.sum_append]; exact congrArg _ (Int.add_zero _)
theorem count_body {C : Cx} {k : Nat} {c : Addr} {σ : St} (l : List (Str × Int)) : Body C k fd4 c (pT 4).body [some (.ds (l.map fun p => (p.1, .int p.2))), none, none] σ (.int (sumC l)) σ := .ret fun A env hc => by
  refine TR_cons (TS_asg (i := 1) TE_int rfl rfl rfl) ?_
  refine TR_cons (TS_for (TI_values (tv 0 rfl)) (Run.scan0 (R := fun b => [some (.ds (l.map fun p => (p.1, .int p.2))), some (.int (sumC b)), none]) (S := fun u0 => σ) l (List.map_map ..) fun done x todo e => ?_)) ?_
  · rw [sumC_snoc]; exact ⟨_, _, .v (i := 2) rfl rfl, .inl rfl, TS_cons (TS_aug (i := 1) (by kernel_rfl) rfl (tv 2 rfl) ibin_add rfl) (TS_nilf [2])⟩
  · exact TR_stop (TR_ret (tv 1 rfl))
end Mine
end
section
open PySem PySem.W PyProof.Rows
namespace Mine
section
variable {α β : Type} [DecidableEq α]
noncomputable def aget : List (α × β) → α → Option β
  | [], _ => none
  | (j, d) :: r, k => if j = k then some d else aget r k
noncomputable def aset : List (α × β) → α → β → List (α × β)
  | [], k, d => [(k, d)]
  | (j, e) :: r, k, d => if j = k then (j, d) :: r else (j, e) :: aset r k d
noncomputable def mapD (f : β → D) (l : List (α × β)) : List (α × D) := l.map fun p => (p.1, f p.2)
theorem kget_map (f : β → D) : ∀ (l : List (α × β)) (k : α), kget (mapD f l) k = (aget l k).map f
  | [], _ => rfl
  | (j, d) :: r, k => by
    show (if j = k then some (f d) else kget (mapD f r) k) = (if j = k then some d else aget r k).map f
    by_cases h : j = k
    · rw [if_pos h, if_pos h]; rfl
    · rw [if_neg h, if_neg h]; exact kget_map f r k
theorem kset_map (f : β → D) : ∀ (l : List (α × β)) (k : α) (d : β), kset (mapD f l) k (f d) = mapD f (aset l k d)
  | [], _, _ => rfl
  | (j, e) :: r, k, d => by
    show (if j = k then (j, f d) :: mapD f r else (j, f e) :: kset (mapD f r) k (f d)) = mapD f (if j = k then (j, d) :: r else (j, e) :: aset r k d)
    by_cases h : j = k
    · rw [if_pos h, if_pos h]; rfl
    · rw [if_neg h, if_neg h]; exact congrArg ((j, f e) :: ·) (kset_map f r k d)
theorem mapD_len (f : β → D) (l : List (α × β)) : (mapD f l).length = l.length := List.length_map _
theorem aset_len : ∀ (l : List (α × β)) (k : α) (d : β), (aset l k d).length ≤ l.length + 1
  | [], k, d => Nat.le_refl _
  | (j, e) :: r, k, d => by
    show (if j = k then (j, d) :: r else (j, e) :: aset r k d).length ≤ _
    split
    · exact Nat.le_succ _
    · exact Nat.succ_le_succ (aset_len r k d)
theorem aset_app : ∀ (l : List (α × β)) (k : α) (d : β), k ∉ l.map (·.1) → aset l k d = l ++ [(k, d)]
  | [], _, _, _ => rfl
  | (j, e) :: r, k, d, h => (if_neg fun (z : j = k) => h (z ▸ .head _)).trans (congrArg ((j, e) :: ·) (aset_app r k d fun m => h (.tail _ m)))
end
noncomputable def intD (a : List (Str × Int)) : List (Str × D) := mapD .int a
noncomputable def addC (a b : List (Str × Int)) : List (Str × Int) := b.foldl (fun acc p => aset acc p.1 ((aget acc p.1).getD 0 + p.2)) a
theorem addC_len : ∀ (b a : List (Str × Int)), (addC a b).length ≤ a.length + b.length
  | [], a => Nat.le_refl _
  | p :: b, a => by
    have h1 := addC_len b (aset a p.1 ((aget a p.1).getD 0 + p.2))
    have h2 := aset_len a p.1 ((aget a p.1).getD 0 + p.2)
    rw [List.length_cons]
    exact Nat.le_trans h1 (by omega)
noncomputable def fd3 : Fd := ⟨(pT 3).scope, ["target", "source", "new_callers", "func", "caller"], [0, 1, 2, 3, 4], []⟩
theorem fd3_ok : fnB fd3 (pT 3).params [] = true := by kernel_rfl
structure Names (C : Cx) : Prop where
  lim : C.h0.NoLimit
  range : Bi C "range" (.type "range")
  enum : Bi C "enumerate" (.type "enumerate")
  list : Bi C "list" (.type "list")
  tuple : Bi C "tuple" (.type "tuple")
  int : Bi C "int" (.type "int")
  iter : Bi C "iter" (.builtin "iter")
  len : Bi C "len" (.builtin "len")
  sum : Bi C "sum" (.builtin "sum")
  min : Bi C "min" (.builtin "min")
  sorted : Bi C "sorted" (.builtin "sorted")
  next : Bi C "next" (.builtin "next")
  ord : Bi C "ord" (.builtin "ord")
  chr : Bi C "chr" (.builtin "chr")
  hex : Bi C "hex" (.builtin "hex")
  isinst : Bi C "isinstance" (.builtin "isinstance")
theorem intD_set (l : List (Str × Int)) (k : Str) (v : Int) : kset (intD l) k (.int v) = intD (aset l k v) := kset_map .int l k v
theorem intD_get (l : List (Str × Int)) (k : Str) : kget (intD l) k = (aget l k).map .int := kget_map .int l k
theorem addC_snoc (a b : List (Str × Int)) (p : Str × Int) : addC a (b ++ [p]) = aset (addC a b) p.1 ((aget (addC a b) p.1).getD 0 + p.2) := List.foldl_append
theorem addc_body {C : Cx} {k : Nat} {c : Addr} {σ : St} (G : Names C) (a b : List (Str × Int)) (ha : (a.map (·.1)).Nodup) (hl : a.length + b.length ≤ 1000000) :
    Body C k fd3 c (pT 3).body [some (.ds (intD a)), some (.ds (intD b)), none, none, none] σ (.ds (intD (addC a b))) (σ ++ [.dead]) := .ret fun A env hc => by
  refine TR_cons (TS_asg (i := 2) (TP_d0.loc made_D) rfl rfl rfl) ?_
  refine TR_cons (TS_for (TI_items (tv 0 rfl)) (Run.scan0 (R := fun u0 => [some (.ds (intD a)), some (.ds (intD b)), some (.loc σ.length), none, none]) (S := fun l => σ ++ [.ds (intD l)]) a (List.map_map ..) fun done x todo e => ?_)) ?_
  · have hk : kset (intD done) x.1 (.int x.2) = intD (done ++ [x]) := (intD_set ..).trans (congrArg intD (aset_app _ _ _ fun m => by
      rw [e, List.map_append] at ha; exact (List.nodup_append.mp ha).2.2 _ m _ (.head _) rfl))
    have hz : (intD done).length ≤ 1000000 := by rw [intD, mapD_len]; have := congrArg List.length e; rw [List.length_append] at this; omega
    exact ⟨_, _, .t (.cons (i := 3) rfl rfl (.cons (i := 4) rfl rfl (.nil _))), .inl rfl, TS_cons (TS.st (TS_seti (tv 4 rfl) (tv 2 rfl) (tv 3 rfl) at_len hz) (set_len.trans (by rw [hk]))) (TS_nilf [3, 4])⟩
  refine TR_cons (TS_for (TI_items (tv 1 rfl)) (Run.scan0 (R := fun u0 => [some (.ds (intD a)), some (.ds (intD b)), some (.loc σ.length), none, none]) (S := fun l => σ ++ [.ds (intD (addC a l))]) b (List.map_map ..) fun done x todo e => ?_)) ?_
  · have hz : (intD (addC a done)).length ≤ 1000000 := by rw [intD, mapD_len]; have := congrArg List.length e; rw [List.length_append] at this; have := addC_len done a; omega
    rw [addC_snoc]
    have hg := intD_get (addC a done) x.1
    cases q : aget (addC a done) x.1 with
    | none =>
      rw [q] at hg
      exact ⟨_, _, .t (.cons (i := 3) rfl rfl (.cons (i := 4) rfl rfl (.nil _))), .inl rfl, TS_cons (TS_if_f (TB.to (TB_cmp (tv 3 rfl) (tv 2 rfl) (cmp_ind (.o at_len)) rfl) (by rw [hg]; rfl))
        (TS_cons (TS.st (TS_seti (tv 4 rfl) (tv 2 rfl) (tv 3 rfl) at_len hz) (set_len.trans (by rw [intD_set]; show _ = σ ++ [AO.ds (intD (aset (addC a done) x.1 (0 + x.2)))]; rw [Int.zero_add]))) TS_nil)) (TS_nilf [3, 4])⟩
    | some v =>
      rw [q] at hg
      exact ⟨_, _, .t (.cons (i := 3) rfl rfl (.cons (i := 4) rfl rfl (.nil _))), .inl rfl, TS_cons (TS_if_t (TB.to (TB_cmp (tv 3 rfl) (tv 2 rfl) (cmp_ind (.o at_len)) rfl) (by rw [hg]; rfl))
        (TS_cons (TS_if_f (TB_value (TE_isTuple G.isinst (by kernel_rfl) G.tuple (by kernel_rfl) (tv 4 rfl)) truth_bool)
          (TS_cons (TS.st (TS_augi (tv 2 rfl) (tv 3 rfl) at_len hg (tv 4 rfl) ibin_add at_len hz) (set_len.trans (by rw [intD_set]; rfl))) TS_nil)) TS_nil)) (TS_nilf [3, 4])⟩
  · exact TR_stop (TR_ret (TE.st (TE_frz (tv 2 rfl) at_len (.ds _)) set_len))
theorem addc_fn {C : Cx} {fa : Addr} {σ : St} (G : Names C) (F : Fn C "add_callers" (pT 3).params (pT 3).scope (pT 3).body fa) (a b : List (Str × Int)) (ha : (a.map (·.1)).Nodup) (hl : a.length + b.length ≤ 1000000) : FnTo C 1 fa [.ds (intD a), .ds (intD b)] σ (.ds (intD (addC a b))) (σ ++ [.dead]) :=
  fn_to (f := fd3) F G.lim fd3_ok (.cons 0 rfl rfl (.cons 1 rfl rfl .nil)) fun c u0 => addc_body G a b ha hl
theorem count_fn {C : Cx} {fa : Addr} {σ : St} (G : Names C) (F : Fn C "count_calls" (pT 4).params (pT 4).scope (pT 4).body fa) (l : List (Str × Int)) : FnTo C 1 fa [.ds (intD l)] σ (.int (sumC l)) σ :=
  fn_to (f := fd4) F G.lim fd4_ok (.cons 0 rfl rfl .nil) fun c u0 => count_body l
noncomputable def fd2 : Fd := ⟨(pT 2).scope, ["target", "source", "cc", "nc", "tt", "ct", "callers", "t_cc", "t_nc", "t_tt", "t_ct", "t_callers"], [0, 1, 2, 3, 4, 5, 6, 7, 8, 9, 10, 11], []⟩
theorem fd2_ok : fnB fd2 (pT 2).params [] = true := by kernel_rfl
noncomputable def statD (p : Int × Int × Int × Int) (a : List (Str × Int)) : D := .tup [.int p.1, .int p.2.1, .int p.2.2.1, .int p.2.2.2, .ds (intD a)]
theorem stats_fn {C : Cx} {f2 f3 : Addr} {σ : St} (G : Names C) (F2 : Fn C "add_func_stats" (pT 2).params (pT 2).scope (pT 2).body f2) (F3 : Fn C "add_callers" (pT 3).params (pT 3).scope (pT 3).body f3) (p q : Int × Int × Int × Int) (a b : List (Str × Int)) (ha : (a.map (·.1)).Nodup) (hl : a.length + b.length ≤ 1000000) :
    FnTo C 2 f2 [statD p a, statD q b] σ (statD (q.1 + p.1, q.2.1 + p.2.1, q.2.2.1 + p.2.2.1, q.2.2.2 + p.2.2.2) (addC a b)) (σ ++ [.dead]) :=
  fn_to (f := fd2) F2 G.lim fd2_ok (.cons 0 rfl rfl (.cons 1 rfl rfl .nil)) fun c u0 => .ret fun A env hc =>
    TR_cons (TS_asgT (tv 1 rfl) (.t (.cons (i := 2) rfl rfl (.cons (i := 3) rfl rfl (.cons (i := 4) rfl rfl (.cons (i := 5) rfl rfl (.cons (i := 6) rfl rfl (.nil _))))))) rfl rfl)
    (TR_cons (TS_asgT (tv 0 rfl) (.t (.cons (i := 7) rfl rfl (.cons (i := 8) rfl rfl (.cons (i := 9) rfl rfl (.cons (i := 10) rfl rfl (.cons (i := 11) rfl rfl (.nil _))))))) rfl rfl)
    (TR_stop (TR_ret (TE_tuple (ac (TE_bin (tv 2 rfl) (tv 7 rfl) bin_add) (ac (TE_bin (tv 3 rfl) (tv 8 rfl) bin_add) (ac (TE_bin (tv 4 rfl) (tv 9 rfl) bin_add) (ac (TE_bin (tv 5 rfl) (tv 10 rfl) bin_add) (a1 (call F3 (addc_fn G F3 a b ha hl) (a2 (tv 11 rfl) (tv 6 rfl)))))))) (Nat.le_of_ble_eq_true rfl)))))
end Mine
end
section
open PySem PySem.W PyProof.Rows
namespace Mine
structure Meth (C : Cx) (c : Addr) (x : Str) (params : Arguments) (scope : Scope) (body : List Stmt) (fa : Addr) : Prop where
  at_ : ∃ c, FnAt C fa params scope body c
theorem meth_to {C : Cx} {c : Addr} {x : Str} {params : Arguments} {f : Fd} {body : List Stmt} {fa : Addr} {k : Nat} {l : List D} {ρ : Rho} {σ σ₁ : St} {d : D} (F : Meth C c x params f.scope body fa) (hlim : C.h0.NoLimit) (B : fnB f params [] = true) (st : StoL f (params.args.map (·.arg)) l (List.replicate f.ns.length none) ρ) (b : ∀ c, Body C k f c body ρ σ d σ₁) : FnTo C (k + 1) fa l σ d σ₁ :=
  let ⟨c, a⟩ := F.at_; call_fn hlim a B st (b c)
theorem idx_t0 {σ : St} {d : D} {l : List D} : IdxOk σ (.tup (d :: l)) (.int 0) d := idx_tup (j := 0) rfl (by decide)
theorem idx_t1 {σ : St} {d e : D} {l : List D} : IdxOk σ (.tup (e :: d :: l)) (.int 1) d := idx_tup (j := 1) rfl (by decide)
noncomputable def fdTI : Fd := ⟨(pM 1 0).scope, ["self", "comp_select_list"], [0, 1], []⟩
theorem fdTI_ok : fnB fdTI (pM 1 0).params [] = true := by kernel_rfl
noncomputable def fdTC : Fd := ⟨(pM 1 1).scope, ["self", "left", "right", "index", "direction", "l", "r"], [0, 1, 2, 3, 4, 5, 6], []⟩
theorem fdTC_ok : fnB fdTC (pM 1 1).params [] = true := by kernel_rfl
noncomputable def tcF (d : D) : List (Str × D) := [("comp_select_list", d)]
noncomputable def ordD (d0 d1 : Int) : D := .lst [.tup [.int 0, .int d0], .tup [.int 1, .int d1]]
noncomputable def cmpR (d0 d1 : Int) (x y : Int × Str) : Int := if x.1 < y.1 then -d0 else if y.1 < x.1 then d0 else if x.2.cps.toList < y.2.cps.toList then -d1 else if y.2.cps.toList < x.2.cps.toList then d1 else 0
noncomputable def rowD (x : Int × Str) : D := .tup [.int x.1, .str x.2]
section
variable {C : Cx} {c fa : Addr} {σ : St} {n : Nat}
theorem tinit_fn (G : Names C) (F : Meth C c "__init__" (pM 1 0).params (pM 1 0).scope (pM 1 0).body fa) (Fa : InsFacts C c "comp_select_list") (d : D) (hn : σ[n]? = some (.ins c [])) : FnTo C 1 fa [.loc n, d] σ .none (σ.set n (.ins c (tcF d))) :=
  meth_to (f := fdTI) F G.lim fdTI_ok (.cons 0 rfl rfl (.cons 1 rfl rfl .nil)) fun c' => .none _ fun A env hc => TS_cons (TS_seta Fa (tv 1 rfl) (tv 0 rfl) hn (Nat.zero_le _)) TS_nil
theorem compare_fn (G : Names C) (F : Meth C c "compare" (pM 1 1).params (pM 1 1).scope (pM 1 1).body fa) (Fa : InsFacts C c "comp_select_list") (d0 d1 : Int) (x y : Int × Str) (hn : σ[n]? = some (.ins c (tcF (ordD d0 d1)))) : FnTo C 1 fa [.loc n, rowD x, rowD y] σ (.int (cmpR d0 d1 x y)) σ :=
  meth_to (f := fdTC) F G.lim fdTC_ok (.cons 0 rfl rfl (.cons 1 rfl rfl (.cons 2 rfl rfl .nil))) fun c' => .ret fun A env hc => by
    have hi : ∀ {K : Ctx} {o t : Expr} {p : Pos} {ρ : Rho}, K.C = C → TE K ρ (eval o K.env) σ (.loc n) σ → (eval (.Attribute o "comp_select_list" p) K.env = (do
      let v ← eval o K.env
      standAt p.atName
      let r ← holding [v] (getAttr v "comp_select_list" true)
      letTemporaryGo o v r
      pure r)) → TI K ρ (.Attribute o "comp_select_list" p) t σ [.tup [.int 0, .int d0], .tup [.int 1, .int d1]] σ := fun e h he => TI_of (TE_attr (e ▸ Fa) h hn (by kernel_rfl) he) iter_lst
    by_cases h1 : x.1 < y.1
    · rw [show cmpR d0 d1 x y = -d0 from if_pos h1]
      exact TR_stop (TR_of (TS_for (n := 0) (hi rfl (tv 0 rfl) rfl) (.ret (.some _ _ _) (.t (.cons (i := 3) rfl rfl (.cons (i := 4) rfl rfl (.nil _))))
        (TS_cons (TS_asg (i := 5) (TE_idx (tv 1 rfl) (tv 3 rfl) idx_t0) rfl rfl rfl) (TS_cons (TS_asg (i := 6) (TE_idx (tv 2 rfl) (tv 3 rfl) idx_t0) rfl rfl rfl)
          (TS_stop (TS_if_t (TB.to (TB_cmp (tv 5 rfl) (tv 6 rfl) cmp_lt rfl) (decide_eq_true h1)) (TS_stop (TS_ret (TE_neg (tv 4 rfl))) (fun q => nomatch q))) (fun q => nomatch q)))))))
    by_cases h2 : y.1 < x.1
    · rw [show cmpR d0 d1 x y = d0 from (if_neg h1).trans (if_pos h2)]
      exact TR_stop (TR_of (TS_for (n := 0) (hi rfl (tv 0 rfl) rfl) (.ret (.some _ _ _) (.t (.cons (i := 3) rfl rfl (.cons (i := 4) rfl rfl (.nil _))))
        (TS_cons (TS_asg (i := 5) (TE_idx (tv 1 rfl) (tv 3 rfl) idx_t0) rfl rfl rfl) (TS_cons (TS_asg (i := 6) (TE_idx (tv 2 rfl) (tv 3 rfl) idx_t0) rfl rfl rfl)
          (TS_cons (TS_if_f (TB.to (TB_cmp (tv 5 rfl) (tv 6 rfl) cmp_lt rfl) (decide_eq_false h1)) TS_nil)
          (TS_stop (TS_if_t (TB.to (TB_cmp (tv 5 rfl) (tv 6 rfl) cmp_gt rfl) (decide_eq_true h2)) (TS_stop (TS_ret (tv 4 rfl)) (fun q => nomatch q))) (fun q => nomatch q))))))))
    rw [show cmpR d0 d1 x y = if x.2.cps.toList < y.2.cps.toList then -d1 else if y.2.cps.toList < x.2.cps.toList then d1 else 0 from (if_neg h1).trans (if_neg h2)]
    by_cases h3 : x.2.cps.toList < y.2.cps.toList
    · rw [if_pos h3]
      exact TR_stop (TR_of (TS_for (n := 1) (hi rfl (tv 0 rfl) rfl) (.next (.some _ _ _) (.t (.cons (i := 3) rfl rfl (.cons (i := 4) rfl rfl (.nil _))))
        (TS_cons (TS_asg (i := 5) (TE_idx (tv 1 rfl) (tv 3 rfl) idx_t0) rfl rfl rfl) (TS_cons (TS_asg (i := 6) (TE_idx (tv 2 rfl) (tv 3 rfl) idx_t0) rfl rfl rfl)
          (TS_cons (TS_if_f (TB.to (TB_cmp (tv 5 rfl) (tv 6 rfl) cmp_lt rfl) (decide_eq_false h1)) TS_nil) (TS_cons (TS_if_f (TB.to (TB_cmp (tv 5 rfl) (tv 6 rfl) cmp_gt rfl) (decide_eq_false h2)) TS_nil) TS_nil))))
        (.ret (.some _ _ _) (.t (.cons (i := 3) rfl rfl (.cons (i := 4) rfl rfl (.nil _))))
        (TS_cons (TS_asg (i := 5) (TE_idx (tv 1 rfl) (tv 3 rfl) idx_t1) rfl rfl rfl) (TS_cons (TS_asg (i := 6) (TE_idx (tv 2 rfl) (tv 3 rfl) idx_t1) rfl rfl rfl)
          (TS_stop (TS_if_t (TB.to (TB_cmp (tv 5 rfl) (tv 6 rfl) cmp_lts rfl) (decide_eq_true h3)) (TS_stop (TS_ret (TE_neg (tv 4 rfl))) (fun q => nomatch q))) (fun q => nomatch q))))))))
    rw [if_neg h3]
    by_cases h4 : y.2.cps.toList < x.2.cps.toList
    · rw [if_pos h4]
      exact TR_stop (TR_of (TS_for (n := 1) (hi rfl (tv 0 rfl) rfl) (.next (.some _ _ _) (.t (.cons (i := 3) rfl rfl (.cons (i := 4) rfl rfl (.nil _))))
        (TS_cons (TS_asg (i := 5) (TE_idx (tv 1 rfl) (tv 3 rfl) idx_t0) rfl rfl rfl) (TS_cons (TS_asg (i := 6) (TE_idx (tv 2 rfl) (tv 3 rfl) idx_t0) rfl rfl rfl)
          (TS_cons (TS_if_f (TB.to (TB_cmp (tv 5 rfl) (tv 6 rfl) cmp_lt rfl) (decide_eq_false h1)) TS_nil) (TS_cons (TS_if_f (TB.to (TB_cmp (tv 5 rfl) (tv 6 rfl) cmp_gt rfl) (decide_eq_false h2)) TS_nil) TS_nil))))
        (.ret (.some _ _ _) (.t (.cons (i := 3) rfl rfl (.cons (i := 4) rfl rfl (.nil _))))
        (TS_cons (TS_asg (i := 5) (TE_idx (tv 1 rfl) (tv 3 rfl) idx_t1) rfl rfl rfl) (TS_cons (TS_asg (i := 6) (TE_idx (tv 2 rfl) (tv 3 rfl) idx_t1) rfl rfl rfl)
          (TS_cons (TS_if_f (TB.to (TB_cmp (tv 5 rfl) (tv 6 rfl) cmp_lts rfl) (decide_eq_false h3)) TS_nil)
          (TS_stop (TS_if_t (TB.to (TB_cmp (tv 5 rfl) (tv 6 rfl) cmp_gts rfl) (decide_eq_true h4)) (TS_stop (TS_ret (tv 4 rfl)) (fun q => nomatch q))) (fun q => nomatch q)))))))))
    rw [if_neg h4]
    exact TR_cons (TS_for (n := 2) (hi rfl (tv 0 rfl) rfl) (.next (.some _ _ _) (.t (.cons (i := 3) rfl rfl (.cons (i := 4) rfl rfl (.nil _))))
        (TS_cons (TS_asg (i := 5) (TE_idx (tv 1 rfl) (tv 3 rfl) idx_t0) rfl rfl rfl) (TS_cons (TS_asg (i := 6) (TE_idx (tv 2 rfl) (tv 3 rfl) idx_t0) rfl rfl rfl)
          (TS_cons (TS_if_f (TB.to (TB_cmp (tv 5 rfl) (tv 6 rfl) cmp_lt rfl) (decide_eq_false h1)) TS_nil) (TS_cons (TS_if_f (TB.to (TB_cmp (tv 5 rfl) (tv 6 rfl) cmp_gt rfl) (decide_eq_false h2)) TS_nil) TS_nil))))
        (.next (.some _ _ _) (.t (.cons (i := 3) rfl rfl (.cons (i := 4) rfl rfl (.nil _))))
        (TS_cons (TS_asg (i := 5) (TE_idx (tv 1 rfl) (tv 3 rfl) idx_t1) rfl rfl rfl) (TS_cons (TS_asg (i := 6) (TE_idx (tv 2 rfl) (tv 3 rfl) idx_t1) rfl rfl rfl)
          (TS_cons (TS_if_f (TB.to (TB_cmp (tv 5 rfl) (tv 6 rfl) cmp_lts rfl) (decide_eq_false h3)) TS_nil) (TS_cons (TS_if_f (TB.to (TB_cmp (tv 5 rfl) (tv 6 rfl) cmp_gts rfl) (decide_eq_false h4)) TS_nil) TS_nil)))) (.done (.none _) TS_nil)))) (TR_stop (TR_ret TE_int))
end
end Mine
end
section
open PySem PySem.W PyProof.Rows
namespace Mine
theorem join_fold (sep : Str) : ∀ (ts : List Str) (a b : Nat), (∀ t ∈ ts, t.length + sep.length ≤ b) → ts.foldl (fun n t => n + t.length + sep.length) a ≤ a + b * ts.length
  | [], a, b, _ => Nat.le_refl _
  | t :: ts, a, b, h => by
    have h1 := h t (.head _)
    have h2 := join_fold sep ts (a + t.length + sep.length) b fun t m => h t (.tail _ m)
    rw [List.length_cons, Nat.mul_succ]
    exact Nat.le_trans h2 (by omega)
theorem join_ok {sep : Str} {ts : List Str} (b : Nat) (h : ∀ t ∈ ts, t.length + sep.length ≤ b) (hb : b * ts.length ≤ 16777216) : JoinOk sep ts = true := by
  unfold JoinOk Builtin.Str.tooLong
  rw [List.foldl_toArray, Bool.not_eq_true', decide_eq_false_iff_not, sizeLine_is]
  exact Nat.not_lt.mpr (Nat.le_trans (join_fold sep ts 0 b h) (by omega))
structure GlbD (C : Cx) (x : Str) (d : D) : Prop where
  at_ : ∃ v, C.mg x = some v ∧ ∀ σ w, Inv C σ w → Rep C w d v
theorem TE_glob {K : Ctx} {ρ : Rho} {σ : St} {x : Str} {d : D} {pos : Pos} (h : GlbD K.C x d) (hk : K.fd.glob x = true := by kernel_rfl) : TE K ρ (eval (.Name x pos) K.env) σ d σ := fun u0 u0 p =>
  let ⟨_, a, b⟩ := h.at_; global_ok p hk a (out_here p.I (b _ _ p.I))
theorem land_nat (a b : Nat) : Builtin.bitAnd (a : Int) (b : Int) = ((a &&& b : Nat) : Int) := by
  unfold Builtin.bitAnd
  rw [decide_eq_true (Int.natCast_nonneg a), decide_eq_true (Int.natCast_nonneg b)]
  rfl
noncomputable def valF (S : List Nat) : Nat := (S.map (2 ^ ·)).sum
theorem valF_mul : ∀ (S : List Nat) (j : Nat), (∀ p ∈ S, j ≤ p) → ∃ q, valF S = 2 ^ j * q
  | [], j, _ => ⟨0, rfl⟩
  | p :: S, j, h => by
    obtain ⟨q, hq⟩ := valF_mul S j fun p m => h p (.tail _ m)
    exact ⟨2 ^ (p - j) + q, by rw [Nat.mul_add, ← Nat.pow_add, Nat.add_sub_cancel' (h p (.head _)), ← hq]; rfl⟩
theorem and_pow (n i : Nat) : n &&& 2 ^ i = if n.testBit i then 2 ^ i else 0 := by
  apply Nat.eq_of_testBit_eq
  intro j
  rw [Nat.testBit_and, Nat.testBit_two_pow]
  by_cases h : i = j
  · subst h
    cases n.testBit i <;> simp
  · cases n.testBit i <;> simp [h]
theorem land_hit {S : List Nat} {i : Nat} (h : ∀ p ∈ S, i < p) : valF (i :: S) &&& 2 ^ i = 2 ^ i := by
  obtain ⟨q, hq⟩ := valF_mul S (i + 1) fun p m => h p m
  rw [show valF (i :: S) = 2 ^ i + valF S from rfl, hq, Nat.add_comm, and_pow, Nat.testBit_two_pow_mul_add _ (Nat.pow_lt_pow_right (by decide) (Nat.lt_succ_self i)), if_pos (Nat.lt_succ_self i), Nat.testBit_two_pow_self]
  rfl
theorem land_miss {S : List Nat} {i : Nat} (h : ∀ p ∈ S, i < p) : valF S &&& 2 ^ i = 0 := by
  obtain ⟨q, hq⟩ := valF_mul S (i + 1) fun p m => h p m
  have := Nat.testBit_two_pow_mul_add q (b := 0) (i := i + 1) (Nat.two_pow_pos _) i
  rw [Nat.add_zero, if_pos (Nat.lt_succ_self i), Nat.zero_testBit] at this
  rw [hq, and_pow, this]; rfl
theorem xor_hit {S : List Nat} {i : Nat} (h : ∀ p ∈ S, i < p) : Builtin.bitXor ((valF (i :: S) : Nat) : Int) ((2 ^ i : Nat) : Int) = ((valF S : Nat) : Int) := by
  rw [bitXor_and, land_nat, land_hit h, show valF (i :: S) = 2 ^ i + valF S from rfl]
  omega
theorem valF_pos {p : Nat} {S : List Nat} : (((valF (p :: S) : Nat) : Int) != 0) = true := bne_iff_ne.mpr fun h => Nat.ne_of_gt (Nat.add_pos_left (Nat.two_pow_pos p) (valF S)) (Int.ofNat.inj h)
noncomputable def flagT : List (Int × Str) := [(1, ⟨#[79, 80, 84, 73, 77, 73, 90, 69, 68]⟩), (2, ⟨#[78, 69, 87, 76, 79, 67, 65, 76, 83]⟩), (4, ⟨#[86, 65, 82, 65, 82, 71, 83]⟩), (8, ⟨#[86, 65, 82, 75, 69, 89, 87, 79, 82, 68, 83]⟩), (16, ⟨#[78, 69, 83, 84, 69, 68]⟩), (32, ⟨#[71, 69, 78, 69, 82, 65, 84, 79, 82]⟩), (64, ⟨#[78, 79, 70, 82, 69, 69]⟩), (128, ⟨#[67, 79, 82, 79, 85, 84, 73, 78, 69]⟩), (256, ⟨#[73, 84, 69, 82, 65, 66, 76, 69, 95, 67, 79, 82, 79, 85, 84, 73, 78, 69]⟩), (512, ⟨#[65, 83, 89, 78, 67, 95, 71, 69, 78, 69, 82, 65, 84, 79, 82]⟩)]
noncomputable def nmF (p : Nat) : Str := (aget flagT ((2 ^ p : Nat) : Int)).getD (baseText "0x" 16 ((2 ^ p : Nat) : Int))
theorem nmF_len : ∀ p < 33, (nmF p).length ≤ 20 := by decide +kernel
theorem hex_len : ∀ p < 33, (baseText "0x" 16 ((2 ^ p : Nat) : Int)).length ≤ 20 := by decide +kernel
theorem valF_32 : D.int ((valF [32] : Nat) : Int) = .int ((2 ^ 32 : Nat) : Int) := by rw [show valF [32] = 2 ^ 32 from rfl]
theorem nmF_32 : nmF 32 = baseText "0x" 16 ((2 ^ 32 : Nat) : Int) := by decide +kernel
noncomputable def sComma : Str := ⟨#[44, 32]⟩
noncomputable def fd7 : Fd := ⟨(pT 7).scope, ["flags", "names", "i", "flag"], [0, 1, 2, 3], []⟩
theorem fd7_ok : fnB fd7 (pT 7).params [] = true := by kernel_rfl
theorem shl_nat (i : Nat) : D.int (1 * 2 ^ (i : Int).toNat) = .int ((2 ^ i : Nat) : Int) := by
  rw [Int.toNat_natCast, Int.one_mul, Int.natCast_pow]; rfl
theorem flag_get (i : Nat) : (kget (mapD D.str flagT) ((2 ^ i : Nat) : Int)).getD (.str (baseText "0x" 16 ((2 ^ i : Nat) : Int))) = .str (nmF i) := by
  rw [kget_map]
  show _ = D.str ((aget flagT _).getD _)
  cases aget flagT ((2 ^ i : Nat) : Int) <;> rfl
structure PF (i : Nat) (S : List Nat) (acc : List Str) : Prop where
  hi : i ≤ 32
  hS : ∀ p ∈ S, i ≤ p ∧ p < 33
  hp : S.Pairwise (· < ·)
  ne : S ≠ []
  hl : acc.length + S.length ≤ 100
structure PFS where
  i : Nat
  S : List Nat
  acc : List Str
theorem PF.last {S : List Nat} {acc : List Str} (h : PF 32 S acc) : S = [32] := by
  obtain ⟨u1, hS, hp, ne, u2⟩ := h
  match S with
  | [] => exact absurd rfl ne
  | [p] => have := hS p (.head _); rw [Nat.le_antisymm (Nat.le_of_lt_succ this.2) this.1]
  | p :: q :: S =>
    exact absurd (Nat.lt_of_lt_of_le ((List.pairwise_cons.mp hp).1 q (.head _)) (Nat.le_of_lt_succ (hS q (.tail _ (.head _))).2)) (Nat.not_lt.mpr (hS p (.head _)).1)
theorem PF.hit {i q : Nat} {S : List Nat} {acc : List Str} {t : Str} (h : PF i (i :: q :: S) acc) (hi : i < 32) : PF (i + 1) (q :: S) (acc ++ [t]) :=
  let hp := List.pairwise_cons.mp h.hp
  ⟨hi, fun z m => ⟨hp.1 z m, (h.hS z (.tail _ m)).2⟩, hp.2, List.cons_ne_nil _ _, by rw [List.length_append]; exact Nat.le_trans (Nat.le_of_eq ((Nat.add_assoc acc.length 1 _).trans (congrArg (acc.length + ·) (Nat.add_comm 1 _)))) h.hl⟩
theorem PF.over {i p : Nat} {S : List Nat} {acc : List Str} (h : PF i (p :: S) acc) (ne : p ≠ i) : ∀ z ∈ p :: S, i < z := fun z m =>
  have hl := Nat.lt_of_le_of_ne (h.hS p (.head _)).1 (Ne.symm ne)
  (List.mem_cons.mp m).elim (fun e => e ▸ hl) fun m => Nat.lt_trans hl ((List.pairwise_cons.mp h.hp).1 z m)
theorem PF.miss {i p : Nat} {S : List Nat} {acc : List Str} (h : PF i (p :: S) acc) (ne : p ≠ i) (hi : i < 32) : PF (i + 1) (p :: S) acc :=
  ⟨hi, fun z m => ⟨h.over ne z m, (h.hS z m).2⟩, h.hp, h.ne, h.hl⟩
theorem TS.to {K : Ctx} {ρ ρ' ρ₂ : Rho} {σ σ' σ₂ : St} {fl : Fl} {t : Sem Flow} (h : TS K ρ t σ fl ρ' σ') (e : ρ' = ρ₂ ∧ σ' = σ₂) : TS K ρ t σ fl ρ₂ σ₂ := e.1 ▸ e.2 ▸ h
theorem TS_ex {K : Ctx} {ρ : Rho} {σ σ' : St} {e : Expr} {d : D} {pos : Pos} (h : TE K ρ (eval e K.env) σ d σ') (hs : swapsWith e none pos.line K.env = pure false := by rfl) : TS K ρ (exec (.Expr e pos) K.env) σ .next ρ σ' := fun u0 u0 p =>
  TS_expr h (by unfold interactive; rw [p.o.kind]; rfl) hs p
theorem range'_pop {i : Nat} (h : i < 32) : (List.range' i (32 - i)).map (fun (n : Nat) => D.int n) = .int (i : Nat) :: (List.range' (i + 1) (32 - (i + 1))).map fun (n : Nat) => D.int n := by
  rw [show 32 - i = 32 - (i + 1) + 1 from (Nat.succ_pred (Nat.sub_ne_zero_of_lt h)).symm, List.range'_succ]; rfl
theorem pretty_body {C : Cx} {k : Nat} {c : Addr} {σ : St} (G : Names C) (Gf : GlbD C "COMPILER_FLAG_NAMES" (.di (mapD .str flagT))) (S : List Nat) (hS : ∀ p ∈ S, p < 33) (hp : S.Pairwise (· < ·)) (hne : S ≠ []) (hl : S.length ≤ 90) :
    Body C k fd7 c (pT 7).body [some (.int (valF S : Nat)), none, none, none] σ (.str (Txt.join sComma (S.map nmF))) (σ ++ [.dead]) := .ret fun A env hc => by
  refine TR_cons (TS_asg (i := 1) ((TP_list an (Nat.zero_le _)).loc made_L) rfl rfl rfl) ?_
  refine TR_cons (TS_for (TI_range1 G.range (by kernel_rfl) rfl (a1 TE_int) (Nat.le_of_ble_eq_true rfl)) (Run.wf (P := fun b : PFS => PF b.i b.S b.acc) (m := fun b => 32 - b.i) (i := fun b => (List.range' b.i (32 - b.i)).map fun (n : Nat) => D.int n) (R := fun b => [some (.int (valF b.S : Nat)), some (.loc σ.length), none, none])
    (S := fun b => σ ++ [.lst (b.acc.map .str)]) (F := fun b => ⟨.next, [none, some (.loc σ.length), none, none], σ ++ [.lst ((b.acc ++ b.S.map nmF).map .str)]⟩) (fun b h => ?_) 32 ⟨0, S, []⟩ ⟨Nat.zero_le _, fun p m => ⟨Nat.zero_le _, hS p m⟩, hp, hne, Nat.le_trans (Nat.le_of_eq (Nat.zero_add _)) (Nat.le_trans hl (by decide))⟩ (Nat.le_refl _))) ?_
  · obtain ⟨i, S, acc⟩ := b
    have hz : acc.length ≤ 16777216 := Nat.le_trans (Nat.le_add_right _ _) (Nat.le_trans h.hl (by decide))
    have ha : (acc.map D.str).length ≤ 16777216 := by rw [List.length_map]; exact hz
    by_cases hi : i < 32
    · have hr := range'_pop hi
      have hin : Nl ((List.range' i (32 - i)).map fun (n : Nat) => D.int n) (σ ++ [.lst (acc.map .str)]) (some (.int (i : Nat))) ((List.range' (i + 1) (32 - (i + 1))).map fun (n : Nat) => D.int n) (σ ++ [.lst (acc.map .str)]) := by rw [hr]; exact .some _ _ _
      have hb : (1 : Int).natAbs < 2 ^ 63 := by decide
      have hi3 : (i : Int) ≤ 1000 := Int.ofNat_le.mpr (Nat.le_trans (Nat.le_of_lt hi) (by decide))
      have hx : (baseText "0x" 16 ((2 ^ i : Nat) : Int)).length ≤ 16777216 := Nat.le_trans (hex_len i (Nat.lt_succ_of_lt hi)) (Nat.le_of_ble_eq_true rfl)
      cases S with
      | nil => exact absurd rfl h.ne
      | cons p S =>
        by_cases e : p = i
        · subst e
          have h1 := (List.pairwise_cons.mp h.hp).1
          have hand : (Builtin.bitAnd ((valF (p :: S) : Nat) : Int) ((2 ^ p : Nat) : Int) != 0) = true := by
            rw [land_nat, land_hit h1]; exact bne_iff_ne.mpr fun q => Nat.ne_of_gt (Nat.two_pow_pos p) (Int.ofNat.inj q)
          have hm : (acc.map D.str) ++ [.str (nmF p)] = (acc ++ [nmF p]).map .str := by rw [List.map_append]; rfl
          cases S with
          | nil =>
            exact .brk _ _ _ _ rfl hin (.v (i := 2) rfl rfl) ((TS.fgt [0, 2, 3]
              (TS_cons (TS_asg (i := 3) ((TE_bin TE_int (tv 2 rfl) (bin_shl hb (Int.natCast_nonneg _) hi3)).val (shl_nat p)) rfl rfl rfl)
              (TS_stop (TS_if_t (TB.to (TB_value (TE_bin (tv 0 rfl) (tv 3 rfl) bin_and) truth_int) hand)
                (TS_cons (TS_ex (TE_append at_len at_len ha (tv 1 rfl) (a1 ((TE_getI (.z _) (.z _) (TE_glob Gf) (a2 (tv 3 rfl) (TE_bi G.hex (by kernel_rfl) rfl rfl (a1 (tv 3 rfl)) fun q => bi_hex hx q.I))).val (flag_get p)))))
                (TS_cons (TS_aug (i := 0) (by kernel_rfl) rfl (tv 3 rfl) ibin_xor rfl)
                (TS_stop (TS_if_t (TB_not (q := false) (TB.to (TB_value (tv 0 rfl) truth_int) (by rw [xor_hit h1]; rfl))) (TS_stop TS_brk (fun q => nomatch q))) (fun q => nomatch q))))) (fun q => nomatch q)))).to ⟨rfl, by rw [set_len, hm]; rfl⟩)
          | cons q S =>
            refine .next ⟨p + 1, q :: S, acc ++ [nmF p]⟩ _ _ _ (h.hit hi) (Nat.sub_lt_sub_left hi (Nat.lt_succ_self p)) (by show End.mk _ _ _ = End.mk _ _ _; rw [List.map_cons, List.append_assoc]; rfl) hin (.v (i := 2) rfl rfl) .next (.inl rfl) ?_
            exact (TS.fgt [2, 3]
              (TS_cons (TS_asg (i := 3) ((TE_bin TE_int (tv 2 rfl) (bin_shl hb (Int.natCast_nonneg _) hi3)).val (shl_nat p)) rfl rfl rfl)
              (TS_cons (TS_if_t (TB.to (TB_value (TE_bin (tv 0 rfl) (tv 3 rfl) bin_and) truth_int) hand)
                (TS_cons (TS_ex (TE_append at_len at_len ha (tv 1 rfl) (a1 ((TE_getI (.z _) (.z _) (TE_glob Gf) (a2 (tv 3 rfl) (TE_bi G.hex (by kernel_rfl) rfl rfl (a1 (tv 3 rfl)) fun q => bi_hex hx q.I))).val (flag_get p)))))
                (TS_cons (TS_aug (i := 0) (by kernel_rfl) rfl (tv 3 rfl) ibin_xor rfl)
                (TS_cons (TS_if_f (TB_not (q := true) (TB.to (TB_value (tv 0 rfl) truth_int) (by rw [xor_hit h1]; exact valF_pos))) TS_nil) TS_nil)))) TS_nil))).to ⟨by rw [xor_hit h1]; rfl, by rw [set_len, hm]⟩
        · have h0 := land_miss (h.over e)
          exact .next ⟨i + 1, p :: S, acc⟩ _ _ _ (h.miss e hi) (Nat.sub_lt_sub_left hi (Nat.lt_succ_self i)) rfl hin (.v (i := 2) rfl rfl) .next (.inl rfl) (TS.fgt [2, 3]
              (TS_cons (TS_asg (i := 3) ((TE_bin TE_int (tv 2 rfl) (bin_shl hb (Int.natCast_nonneg _) hi3)).val (shl_nat i)) rfl rfl rfl)
              (TS_cons (TS_if_f (TB.to (TB_value (TE_bin (tv 0 rfl) (tv 3 rfl) bin_and) truth_int) (by rw [land_nat, h0]; rfl)) TS_nil) TS_nil)))
    · cases show i = 32 from Nat.le_antisymm h.hi (Nat.le_of_not_lt hi)
      cases h.last
      exact .done _ _ (.none _) (TS.fgt [0] (TS_cons (TS_ex (TE_append at_len at_len ha (tv 1 rfl) (a1 (TE_bi G.hex (by kernel_rfl) rfl rfl (a1 ((tv 0 rfl).val valF_32)) fun q => bi_hex (Nat.le_trans (hex_len 32 (by decide)) (Nat.le_of_ble_eq_true rfl)) q.I)))) TS_nil)
        |>.to ⟨rfl, by rw [set_len, List.map_append, List.map_singleton, List.map_singleton, nmF_32]⟩)
  · exact TR_stop (TR_ret ((TE_join (ss := S.map nmF) (join_ok 22 (fun t m => by obtain ⟨p, q, rfl⟩ := List.mem_map.mp m; exact Nat.add_le_add_right (nmF_len p (hS p q)) 2) (by rw [List.length_map]; exact Nat.le_trans (Nat.mul_le_mul_left 22 hl) (by decide))) TE_str (.z _) (a1 (TE_frz (tv 1 rfl) at_len (.lst _)))).st set_len))
theorem pretty_fn {C : Cx} {fa : Addr} {σ : St} (G : Names C) (Gf : GlbD C "COMPILER_FLAG_NAMES" (.di (mapD .str flagT))) (F : Fn C "pretty_flags" (pT 7).params (pT 7).scope (pT 7).body fa) (S : List Nat) (hS : ∀ p ∈ S, p < 33) (hp : S.Pairwise (· < ·)) (hne : S ≠ []) (hl : S.length ≤ 90) :
    FnTo C 1 fa [.int (valF S : Nat)] σ (.str (Txt.join sComma (S.map nmF))) (σ ++ [.dead]) :=
  fn_to (f := fd7) F G.lim fd7_ok (.cons 0 rfl rfl .nil) fun c u0 => pretty_body G Gf S hS hp hne hl
end Mine
end
section
open PySem PySem.W PyProof.Rows
namespace Mine
noncomputable def obt (q : Nat × Nat) (b : Nat) : Nat := q.1 + 64 * b + 128 * q.2
noncomputable def okO (q : Nat × Nat) : Prop := q.1 < 64 ∧ q.2 < 2
theorem and63 {q : Nat × Nat} {p : Nat} (h : okO q) (hp : p < 2) : Builtin.bitAnd ((obt q p : Nat) : Int) 63 = ((q.1 : Nat) : Int) :=
  (by decide +kernel : ∀ q < 2, ∀ p < 2, ∀ v < 64, Builtin.bitAnd ((v + 64 * p + 128 * q : Nat) : Int) 63 = (v : Int)) q.2 h.2 p hp q.1 h.1
theorem and64 {q : Nat × Nat} {p : Nat} (h : okO q) (hp : p < 2) : Builtin.bitAnd ((obt q p : Nat) : Int) 64 = ((64 * p : Nat) : Int) :=
  (by decide +kernel : ∀ q < 2, ∀ p < 2, ∀ v < 64, Builtin.bitAnd ((v + 64 * p + 128 * q : Nat) : Int) 64 = ((64 * p : Nat) : Int)) q.2 h.2 p hp q.1 h.1
theorem or64 {u v : Nat} (hu : u < 64) (hv : v < 64) : Builtin.bitOr ((u : Int) * 2 ^ (6 : Int).toNat) (v : Int) = ((u * 64 + v : Nat) : Int) :=
  (by decide +kernel : ∀ u : Nat, u < 64 → ∀ v : Nat, v < 64 → Builtin.bitOr ((u : Int) * 2 ^ (6 : Int).toNat) (v : Int) = ((u * 64 + v : Nat) : Int)) u hu v hv
noncomputable def mkO : List (Nat × Nat) → Nat
  | [] => 0
  | _ :: _ => 1
noncomputable def encO : List (Nat × Nat) → List Nat
  | [] => []
  | p :: r => obt p (mkO r) :: encO r
theorem mkO_lt : ∀ r, mkO r < 2
  | [] => Nat.zero_lt_two
  | _ :: _ => Nat.one_lt_two
noncomputable def valO (r : List (Nat × Nat)) (u : Nat) : Nat := r.foldl (fun u p => u * 64 + p.1) u
theorem valO_le : ∀ (r : List (Nat × Nat)) (u : Nat), u ≤ valO r u
  | [], u => Nat.le_refl _
  | p :: r, u => Nat.le_trans (by omega) (valO_le r (u * 64 + p.1))
noncomputable def natD (l : List Nat) : List D := l.map fun n => .int (n : Nat)
noncomputable def fd8 : Fd := ⟨(pT 8).scope, ["iterator", "b", "val"], [0, 1, 2], []⟩
theorem fd8_ok : fnB fd8 (pT 8).params [] = true := by kernel_rfl
theorem TE_next1 {K : Ctx} {ρ : Rho} {σ σ₁ : St} {n : Nat} {d : D} {l : List D} {e : Expr} {p pos : Pos} (G : Names K.C) (he : TE K ρ (eval e K.env) σ (.loc n) σ₁) (hn : σ₁[n]? = some (.it (d :: l))) (hk : K.fd.glob "next" = true := by kernel_rfl) (hu : unstarred [e] = true := by rfl) : TE K ρ (eval (.Call (.Name "next" p) [e] [] pos) K.env) σ d (σ₁.set n (.it l)) :=
  TE_bi G.next hk rfl hu (a1 he hu) fun q r => bi_next1 hn q.I r
structure VI where
  q : Nat × Nat
  r : List (Nat × Nat)
  u : Nat
noncomputable def lastO (q : Nat × Nat) : List (Nat × Nat) → Nat × Nat
  | [] => q
  | p :: r => lastO p r
theorem get_set {α : Type} {l : List α} {n : Nat} {a b : α} (h : l[n]? = some a) : (l.set n b)[n]? = some b := List.getElem?_set_self (List.getElem?_eq_some_iff.mp h).1
theorem shl6 {u : Nat} (h : u < 64) : (u : Int).natAbs < 2 ^ 63 := Nat.lt_trans (show (u : Int).natAbs < 64 from h) (by decide)
theorem parse_body {C : Cx} {k c m v : Nat} {ca : Addr} {σ : St} {p : Nat × Nat} {r : List (Nat × Nat)} {rest : List D} (G : Names C) (hc : v < 4096) (hv : valO r p.1 = v) (hq : ∀ q ∈ p :: r, okO q) (hm : σ[m]? = some (.it (natD (encO (p :: r)) ++ rest))) :
    Body C k fd8 ca (pT 8).body [some (.loc m), none, none] σ (.int (v : Nat)) (σ.set m (.it rest)) := .ret fun A env hc' => by
  refine TR_cons (TS_asg (i := 1) (TE_next1 G (tv 0 rfl) hm) rfl rfl rfl) ?_
  refine TR_cons (TS_asg (i := 2) ((TE_bin (tv 1 rfl) TE_int bin_and).val (congrArg D.int (and63 (hq p (.head _)) (mkO_lt r)))) rfl rfl rfl) ?_
  refine TR_cons (TS_while (WRun.wf (P := fun b : VI => (∀ z ∈ b.q :: b.r, okO z) ∧ valO b.r b.u = v) (m := fun b => b.r.length) (R := fun b => [some (.loc m), some (.int (obt b.q (mkO b.r) : Nat)), some (.int (b.u : Nat))])
    (S := fun b => σ.set m (.it (natD (encO b.r) ++ rest))) (F := fun b => ([some (.loc m), some (.int (obt (lastO b.q b.r) 0 : Nat)), some (.int (v : Nat))], σ.set m (.it rest))) (fun b h => ?_) r.length ⟨p, r, p.1⟩ ⟨hq, hv⟩ (Nat.le_refl _))) (TR_stop (TR_ret (tv 2 rfl)))
  obtain ⟨q, r, u⟩ := b
  obtain ⟨h1, h2⟩ := h
  have h3 := h1 q (.head _)
  cases r with
  | nil => cases h2; exact .done rfl (TB.to (TB_value (TE_bin (tv 1 rfl) TE_int bin_and) truth_int) ((congrArg (· != 0) (and64 h3 Nat.zero_lt_two)).trans rfl))
  | cons z r =>
    have hu : u < 64 := by have : u * 64 + z.1 ≤ v := h2 ▸ valO_le r (u * 64 + z.1); omega
    have hz := h1 z (.tail _ (.head _))
    exact .next ⟨z, r, u * 64 + z.1⟩ _ ⟨fun y m => h1 y (.tail _ m), h2⟩ (Nat.lt_succ_self _) rfl (TB.to (TB_value (TE_bin (tv 1 rfl) TE_int bin_and) truth_int) ((congrArg (· != 0) (and64 h3 Nat.one_lt_two)).trans rfl))
      ((TS_cons (TS_aug (i := 2) (by kernel_rfl) rfl TE_int (ibin_shl (shl6 hu) (by decide) (by decide)) rfl) (TS_cons (TS_asg (i := 1) (TE_next1 G (tv 0 rfl) (get_set hm)) rfl rfl rfl)
        (TS_cons (TS_aug (i := 2) (by kernel_rfl) rfl ((TE_bin (tv 1 rfl) TE_int bin_and).val (congrArg D.int (and63 hz (mkO_lt r)))) ibin_or rfl) TS_nil))).to ⟨by rw [or64 hu hz.1]; rfl, List.set_set ..⟩)
theorem parse_fn {C : Cx} {m v : Nat} {fa : Addr} {σ : St} {p : Nat × Nat} {r : List (Nat × Nat)} {rest : List D} (G : Names C) (F : Fn C "_parse_varint" (pT 8).params (pT 8).scope (pT 8).body fa) (hc : v < 4096) (hv : valO r p.1 = v) (hq : ∀ q ∈ p :: r, okO q) (hm : σ[m]? = some (.it (natD (encO (p :: r)) ++ rest))) :
    FnTo C 1 fa [.loc m] σ (.int (v : Nat)) (σ.set m (.it rest)) := fn_to (f := fd8) F G.lim fd8_ok (.cons 0 rfl rfl .nil) fun c u0 => parse_body (c := 0) G hc hv hq hm
end Mine
end
section
open PySem PySem.W PyProof.Rows
namespace Mine
section
variable {K : Ctx} {ρ : Rho} {σ σ₁ : St} {scope : Scope} {own : List Nat} {α : Type} {ds : List D} {target iter elt kx vx : Expr} {ifs : List Expr} {pos : Pos}
inductive CT (K : Ctx) (ρ : Rho) (σ : St) (target elt : Expr) (d v : D) : Prop
  | mk {ρ₁ : Rho} (a : Asg K target d ρ ρ₁) (l : Le ρ ρ₁) (e : TE K ρ₁ (eval elt K.env) σ v σ)
inductive CF (K : Ctx) (ρ : Rho) (σ : St) (target elt : Expr) (ifs : List Expr) (d v : D) (q : Bool) : Prop
  | mk {ρ₁ : Rho} (a : Asg K target d ρ ρ₁) (l : Le ρ ρ₁) (t : TB K ρ₁ (testsOf ifs K.env) σ q σ) (e : q = true → TE K ρ₁ (eval elt K.env) σ v σ)
theorem TP_lm (own : List Nat) (e f : α → D) (xs : List α) (hi : TI K ρ iter target σ ds σ₁) (hd : ds = xs.map e) (hz : xs.length ≤ 16777216) (H : ∀ cenv, ∀ x ∈ xs, CT (K.sub scope own cenv) (blank own 0 ρ) σ₁ target elt (e x) (f x)) (h : compB K.fd scope own = true := by kernel_rfl) (hs : ∀ x, foldedSetIterable iter K.env x = pure x := by exact fun u0 => rfl) :
    TP K ρ (eval (.ListComp elt [⟨target, iter, [], 0⟩] scope pos) K.env) σ (fun a => GL K.C a (xs.map f)) σ₁ :=
  TP_lc (comp_l h) hi (fun a cenv ha => hd ▸ CRun.map ha e f xs hz fun x m => let ⟨a, l, t⟩ := H cenv x m; ⟨_, a, l, t⟩) hs
theorem TP_lf (own : List Nat) (e f : α → D) (p : α → Bool) (xs : List α) (hi : TI K ρ iter target σ ds σ₁) (hd : ds = xs.map e) (hz : xs.length ≤ 16777216) (H : ∀ cenv, ∀ x ∈ xs, CF (K.sub scope own cenv) (blank own 0 ρ) σ₁ target elt ifs (e x) (f x) (p x)) (h : compB K.fd scope own = true := by kernel_rfl) (hs : ∀ x, foldedSetIterable iter K.env x = pure x := by exact fun u0 => rfl) :
    TP K ρ (eval (.ListComp elt [⟨target, iter, ifs, 0⟩] scope pos) K.env) σ (fun a => GL K.C a ((xs.filter p).map f)) σ₁ :=
  TP_lc (comp_l h) hi (fun a cenv ha => hd ▸ CRun.list ha e f p xs [] (by rw [List.length_nil, Nat.zero_add]; exact hz) fun x m => let ⟨a, l, t, u⟩ := H cenv x m; ⟨_, a, l, t, u⟩) hs
theorem TE_ite {K : Ctx} {ρ : Rho} {σ σ₁ σ₂ : St} {d : D} {t y z : Expr} {pos : Pos} {q : Bool} (ht : TB K ρ (isTrue t K.env (eval t K.env)) σ q σ₁) (h1 : q = true → TE K ρ (eval y K.env) σ₁ d σ₂) (h2 : q = false → TE K ρ (eval z K.env) σ₁ d σ₂) : TE K ρ (eval (.IfExp t y z pos) K.env) σ d σ₂ := by
  cases q with
  | true => exact TE_ite_t ht (h1 rfl)
  | false => exact TE_ite_f ht (h2 rfl)
end
theorem fdiv_nat (a b : Nat) : Int.fdiv (a : Int) (b : Int) = ((a / b : Nat) : Int) := (Int.ofNat_fdiv a b).symm
theorem fmod_nat (a b : Nat) : Int.fmod (a : Int) (b : Int) = ((a % b : Nat) : Int) := (Int.ofNat_fmod a b).symm
noncomputable def cntO (c w : Nat) : Nat := if w % 3 = 0 then 3 else if 63 < c then 2 else 1
noncomputable def octE (c w i : Nat) : Nat × Nat := (c / 64 ^ i % 64, w / (i + 1) % 2)
noncomputable def octB (c w i : Nat) : D := .int (obt (octE c w i) (if 0 < i then 1 else 0) : Nat)
noncomputable def octP (c w : Nat) : List (Nat × Nat) := ((List.range (cntO c w)).map (octE c w)).reverse
theorem octE_ok (c w i : Nat) : okO (octE c w i) := ⟨Nat.mod_lt _ (by decide), Nat.mod_lt _ (by decide)⟩
theorem octP_ok (c w : Nat) (hc : c < 4096) : ∃ p r, octP c w = p :: r ∧ r.length ≤ 2 ∧ valO r p.1 = c ∧ ∀ q ∈ octP c w, okO q := by
  have hq : ∀ q ∈ octP c w, okO q := fun q m => by
    obtain ⟨i, u1, rfl⟩ := List.mem_map.mp (List.mem_reverse.mp m); exact octE_ok c w i
  unfold octP cntO at *
  by_cases h : w % 3 = 0
  · rw [if_pos h] at *
    exact ⟨_, _, rfl, Nat.le_refl _, by show (c / 4096 % 64 * 64 + c / 64 % 64) * 64 + c / 1 % 64 = c; rw [Nat.div_eq_of_lt hc, Nat.mod_eq_of_lt (Nat.div_lt_of_lt_mul hc), Nat.div_one]; exact (congrArg (fun x => x * 64 + c % 64) (Nat.zero_add _)).trans (Nat.div_add_mod' c 64), hq⟩
  · rw [if_neg h] at *
    by_cases h' : 63 < c
    · rw [if_pos h'] at *
      exact ⟨_, _, rfl, Nat.le_succ _, by show c / 64 % 64 * 64 + c / 1 % 64 = c; rw [Nat.mod_eq_of_lt (Nat.div_lt_of_lt_mul hc), Nat.div_one]; exact Nat.div_add_mod' c 64, hq⟩
    · rw [if_neg h'] at *
      exact ⟨_, _, rfl, Nat.zero_le _, by show c / 1 % 64 = c; rw [Nat.div_one]; exact Nat.mod_eq_of_lt (Nat.lt_succ_of_le (Nat.not_lt.mp h')), hq⟩
noncomputable def fd14 : Fd := ⟨(pT 14).scope, ["number", "way", "place"], [0, 1], []⟩
theorem fd14_ok : fnB fd14 (pT 14).params [] = true := by kernel_rfl
theorem rev_idx : ∀ n < 8, sliceRange (sliceBounds none none (some (-1)) n).1 (sliceBounds none none (some (-1)) n).2.1 (sliceBounds none none (some (-1)) n).2.2 = (List.range n).reverse := by decide
theorem oct_rev (c w : Nat) : (sliceRange (sliceBounds none none (some (-1)) ((List.range (cntO c w)).map (octB c w)).length).1 (sliceBounds none none (some (-1)) ((List.range (cntO c w)).map (octB c w)).length).2.1 (sliceBounds none none (some (-1)) ((List.range (cntO c w)).map (octB c w)).length).2.2).filterMap (((List.range (cntO c w)).map (octB c w))[·]?) = natD (encO (octP c w)) := by
  rw [List.length_map, List.length_range]
  unfold octP cntO
  by_cases h : w % 3 = 0
  · rw [if_pos h, rev_idx 3 (by decide)]; rfl
  · rw [if_neg h]
    by_cases h' : 63 < c
    · rw [if_pos h', rev_idx 2 (by decide)]; rfl
    · rw [if_neg h', rev_idx 1 (by decide)]; rfl
theorem cnt_a (w : Nat) : ((w : Int).fmod 3 == 0) = (w % 3 == 0) := by
  rw [show (3 : Int) = ((3 : Nat) : Int) from rfl, fmod_nat]; exact Bool.eq_iff_iff.mpr (by rw [beq_iff_eq, beq_iff_eq]; omega)
theorem cnt_1 (c : Nat) {w : Nat} (h : (w % 3 == 0) = true) : D.int 3 = .int (cntO c w : Nat) := by
  unfold cntO; rw [if_pos (eq_of_beq h)]; rfl
theorem cnt_2 (c : Nat) {w : Nat} (h : (w % 3 == 0) = false) : D.int (1 + if decide ((c : Int) > 63) = true then 1 else 0) = .int (cntO c w : Nat) := by
  unfold cntO; rw [if_neg (beq_eq_false_iff_ne.mp h)]
  by_cases q : 63 < c
  · rw [if_pos q, if_pos (decide_eq_true (by omega))]; rfl
  · rw [if_neg q, if_neg (by rw [decide_eq_true_iff]; omega)]; rfl
theorem cntO_le (c w : Nat) : cntO c w ≤ 3 := by unfold cntO; split; exact Nat.le_refl _; split <;> decide
theorem pow64 (i : Nat) : (64 : Int) ^ (i : Int).toNat = ((64 ^ i : Nat) : Int) := by rw [Int.toNat_natCast, Int.natCast_pow]; rfl
theorem p64_small : ∀ {i : Nat}, i < 3 → ((64 : Int) ^ (i : Int).toNat).natAbs < 2 ^ 63 := fun {i} h => (by decide : ∀ i : Nat, i < 3 → ((64 : Int) ^ (i : Int).toNat).natAbs < 2 ^ 63) i h
theorem oct_val (c w i : Nat) : D.int (((c : Int).fdiv ((64 : Int) ^ (i : Int).toNat)).fmod 64 + 64 * (if decide ((i : Int) > 0) = true then 1 else 0) + 128 * ((w : Int).fdiv ((i : Int) + 1)).fmod 2) = octB c w i := by
  rw [pow64, fdiv_nat, show (64 : Int) = ((64 : Nat) : Int) from rfl, fmod_nat, show (i : Int) + 1 = ((i + 1 : Nat) : Int) from rfl, fdiv_nat, show (2 : Int) = ((2 : Nat) : Int) from rfl, fmod_nat]
  refine congrArg D.int ?_
  unfold obt octE
  by_cases h : 0 < i
  · rw [if_pos h, if_pos (decide_eq_true (by omega))]; dsimp only; omega
  · rw [if_neg h, if_neg (by rw [decide_eq_true_iff]; omega)]; dsimp only; omega
theorem octets_body {C : Cx} {k ca : Nat} {c w : Nat} {σ : St} (G : Names C) : Body C k fd14 ca (pT 14).body [some (.int (c : Nat)), some (.int (w : Nat)), none] σ (.lst (natD (encO (octP c w)))) σ := .ret fun A env hc' => by
  have hm : ∀ i ∈ List.range (cntO c w), i < 3 := fun i m => Nat.lt_of_lt_of_le (List.mem_range.mp m) (cntO_le c w)
  exact TR_stop (TR_ret ((TE_sl ((TP_lm [2] (fun i : Nat => .int i) (octB c w) (List.range (cntO c w)) (TI_range1 G.range (by kernel_rfl) rfl (a1 (TE_ite (q := w % 3 == 0) (TB.to (TB_cmp (TE_bin (tv 1 rfl) TE_int (bin_fmod (by decide))) TE_int cmp_eqi rfl) (cnt_a w)) (fun h => TE_int.val (cnt_1 c h)) fun h => (TE_bin TE_int (TE_bi G.int (by kernel_rfl) rfl rfl (a1 (TE_cmp (tv 0 rfl) TE_int cmp_gt rfl)) fun q r => bi_int q.I r) bin_add).val (cnt_2 c h))) (Nat.le_trans (cntO_le c w) (by decide))) rfl (by rw [List.length_range]; exact Nat.le_trans (cntO_le c w) (by decide)) fun cenv i m =>
    ⟨.v (i := 2) rfl rfl, .set rfl, (TE_bin (TE_bin (TE_bin (TE_bin (tv 0 rfl) (TE_bin TE_int (tv 2 rfl) (bin_pow (by decide) (Int.natCast_nonneg _) (by have := hm i m; omega))) (bin_fdiv (by rw [pow64]; exact Int.ofNat_ne_zero.mpr (Nat.ne_of_gt (Nat.pow_pos (by decide)))) (p64_small (hm i m)))) TE_int (bin_fmod (by decide)))
      (TE_bin TE_int (TE_bi G.int (by kernel_rfl) rfl rfl (a1 (TE_cmp (tv 2 rfl) TE_int cmp_gt rfl)) fun q r => bi_int q.I r) (bin_mul (.inl (by decide)))) bin_add)
      (TE_bin TE_int (TE_bin (TE_bin (tv 1 rfl) (TE_bin (tv 2 rfl) TE_int bin_add) (bin_fdiv (by omega) (by have := hm i m; omega))) TE_int (bin_fmod (by decide))) (bin_mul (.inl (by decide)))) bin_add).val (oct_val c w i)⟩).rest made_L)
    TE_part_none TE_part_none (TE_part_some (TE_neg TE_int)) .none .none (.int _) (sl_lst (.z _) (by decide) (by rw [List.length_map, List.length_range]; exact Nat.le_trans (cntO_le c w) (by decide)))).val (congrArg D.lst (oct_rev c w))))
theorem octets_fn {C : Cx} {fa : Addr} {c w : Nat} {σ : St} (G : Names C) (F : Fn C "_law_octets" (pT 14).params (pT 14).scope (pT 14).body fa) : FnTo C 1 fa [.int (c : Nat), .int (w : Nat)] σ (.lst (natD (encO (octP c w)))) σ :=
  fn_to (f := fd14) F G.lim fd14_ok (.cons 0 rfl rfl (.cons 1 rfl rfl .nil)) fun u0 u0 => octets_body (c := c) (k := 0) G
end Mine
end
section
open PySem PySem.W PyProof.Rows
namespace Mine
noncomputable def mkS (l : List Nat) : Str := ⟨l.toArray⟩
theorem mkS_inj {a b : List Nat} : mkS a = mkS b ↔ a = b := ⟨fun h => congrArg (fun s : Str => s.cps.toList) h, congrArg mkS⟩
theorem mkS_len (l : List Nat) : (mkS l).length = l.length := List.size_toArray
theorem mkS_app (a b : List Nat) : mkS a ++ mkS b = mkS (a ++ b) := by
  show (⟨(a.toArray ++ b.toArray)⟩ : Str) = _
  rw [List.append_toArray]; rfl
theorem signs_mk (l : List Nat) : signs (mkS l) = l.map fun c => .str (mkS [c]) := rfl
theorem glue_go : ∀ (ps : List (List Nat)) (acc : List Nat), (ps.map mkS).foldl (fun acc p => acc ++ #[] ++ p.cps) acc.toArray = (acc ++ ps.flatten).toArray
  | [], acc => by rw [List.flatten_nil, List.append_nil]; rfl
  | p :: ps, acc => by
    rw [List.map_cons, List.foldl_cons, show acc.toArray ++ #[] ++ (mkS p).cps = (acc ++ p).toArray by rw [Array.append_empty]; exact List.append_toArray .., glue_go ps, List.flatten_cons, List.append_assoc]
theorem join_empty (ts : List (List Nat)) : Txt.join ⟨#[]⟩ (ts.map mkS) = mkS ts.flatten := by
  cases ts with
  | nil => rfl
  | cons t ts => exact congrArg Str.mk (glue_go ts t)
theorem bin_cat {a b : List Nat} (h : a.length + b.length ≤ 16777216) : BinOk .Add (.str (mkS a)) (.str (mkS b)) (.str (mkS (a ++ b))) := mkS_app a b ▸ bin_adds (by rw [mkS_len, mkS_len]; exact h)
theorem ibin_cat {a b : List Nat} (h : a.length + b.length ≤ 16777216) : IBinOk .Add (.str (mkS a)) (.str (mkS b)) (.str (mkS (a ++ b))) := mkS_app a b ▸ ibin_adds (by rw [mkS_len, mkS_len]; exact h)
theorem TB_or {K : Ctx} {ρ : Rho} {σ : St} {e : Expr} {l : List Expr} {p q : Bool} (h : TB K ρ (isTrue e K.env (eval e K.env)) σ p σ) (h' : TB K ρ (allTrue .Or l K.env) σ q σ) : TB K ρ (allTrue .Or (e :: l) K.env) σ (p || q) σ := by
  cases p with
  | true => exact TB_or_t h
  | false => exact TB_or_f h h'
theorem TB_and {K : Ctx} {ρ : Rho} {σ : St} {e : Expr} {l : List Expr} {p q : Bool} (h : TB K ρ (isTrue e K.env (eval e K.env)) σ p σ) (h' : TB K ρ (allTrue .And l K.env) σ q σ) : TB K ρ (allTrue .And (e :: l) K.env) σ (p && q) σ := by
  cases p with
  | true => exact TB_and_t h h'
  | false => exact TB_and_f h
noncomputable def isEsc (marked : List Nat) (w p c : Nat) : Bool := w % 2 == 1 || (marked.contains c || (c == 34 && p == 0))
noncomputable def markedL (w : Nat) : List Nat := if w % 4 < 2 then [92, 34] else [92, 10, 9, 13, 32]
noncomputable def escL (w : Nat) : List Nat → Nat → List (Bool × Nat)
  | [], _ => []
  | c :: r, p => (isEsc (markedL w) w p c, c) :: escL w r (p + 1)
noncomputable def encE (e : Bool × Nat) : List Nat := if e.1 then [92, e.2] else [e.2]
noncomputable def encW (es : List (Bool × Nat)) : List Nat := (es.map encE).flatten
noncomputable def gapL (w : Nat) : List Nat := match w / 4 % 5 with
  | 0 => [10] | 1 => [9] | 2 => [13] | 3 => [32] | _ => if w % 4 < 2 then [] else [32, 10]
noncomputable def spell (word : List Nat) (w : Nat) : List Nat := if w % 4 < 2 then 34 :: (encW (escL w word 0) ++ 34 :: gapL w) else encW (escL w word 0) ++ gapL w
theorem escL_zip (w : Nat) : ∀ (word : List Nat) (p : Nat), escL w word p = (word.zipIdx p).map fun x => (isEsc (markedL w) w x.2 x.1, x.1)
  | [], _ => rfl
  | c :: r, p => congrArg ((isEsc (markedL w) w p c, c) :: ·) (escL_zip w r (p + 1))
theorem escL_len (w : Nat) (word : List Nat) (p : Nat) : (escL w word p).length = word.length := by rw [escL_zip, List.length_map, List.length_zipIdx]
theorem encE_len (e : Bool × Nat) : (encE e).length ≤ 2 := by unfold encE; split; exact Nat.le_refl _; exact Nat.le_succ _
theorem encW_len : ∀ es : List (Bool × Nat), (encW es).length ≤ 2 * es.length
  | [] => Nat.le_refl _
  | e :: r => by
    show (encE e ++ encW r).length ≤ 2 * (r.length + 1)
    have := encW_len r
    have := encE_len e
    rw [List.length_append]; omega
theorem gapL_len (w : Nat) : (gapL w).length ≤ 2 := by unfold gapL; repeat' split
                                                       all_goals decide
noncomputable def fd13 : Fd := ⟨(pT 13).scope, ["word", "way", "quoted", "marked", "told", "gap", "place", "sign"], [0, 1, 2, 3, 4, 5], []⟩
theorem fd13_ok : fnB fd13 (pT 13).params [] = true := by kernel_rfl
theorem sp_q (w : Nat) : decide ((w : Int).fmod 4 < 2) = decide (w % 4 < 2) := by
  rw [show (4 : Int) = ((4 : Nat) : Int) from rfl, fmod_nat]; exact decide_eq_decide.mpr (by omega)
theorem sp_2 (w : Nat) : ((w : Int).fmod 2 == 1) = (w % 2 == 1) := by
  rw [show (2 : Int) = ((2 : Nat) : Int) from rfl, fmod_nat]; exact Bool.eq_iff_iff.mpr (by rw [beq_iff_eq, beq_iff_eq]; omega)
theorem in1 (m : List Nat) (c : Nat) : (!(Builtin.Str.occurrences (mkS m) (mkS [c]) 0 (mkS m).length 1).isEmpty) = m.contains c :=
  (StrLaws.found_one (mkS m) c).trans (Bool.eq_iff_iff.mpr (by rw [decide_eq_true_iff]; exact List.contains_iff_mem.symm))
theorem eq1 (c d : Nat) : (mkS [c] == mkS [d]) = (c == d) := Bool.eq_iff_iff.mpr (by rw [beq_iff_eq, beq_iff_eq, mkS_inj]; exact List.singleton_inj)
theorem eqz (p : Nat) : ((p : Int) == 0) = (p == 0) := Bool.eq_iff_iff.mpr (by rw [beq_iff_eq, beq_iff_eq]; omega)
theorem sp_test (w p c : Nat) : (((w : Int).fmod 2 == 1) || ((!(Builtin.Str.occurrences (mkS (markedL w)) (mkS [c]) 0 (mkS (markedL w)).length 1).isEmpty) || (((mkS [c] == mkS [34]) && (((p : Int) == 0) && true)) || false))) = isEsc (markedL w) w p c := by
  rw [sp_2, in1, eq1, eqz, Bool.or_false, Bool.and_true]; rfl
theorem sp_gap (w : Nat) (x : D) (h : x = .str (mkS (if w % 4 < 2 then [] else [32, 10]))) : ([.str (mkS [10]), .str (mkS [9]), .str (mkS [13]), .str (mkS [32]), x] : List D)[w / 4 % 5]? = some (.str (mkS (gapL w))) := by
  have := Nat.mod_lt (w / 4) (show 0 < 5 by decide)
  unfold gapL
  generalize w / 4 % 5 = j at this
  rcases Nat.lt_or_eq_of_le (Nat.le_of_lt_succ this) with q | q
  · exact (List.forall_mem_cons.mpr ⟨rfl, List.forall_mem_cons.mpr ⟨rfl, List.forall_mem_cons.mpr ⟨rfl, List.forall_mem_cons.mpr ⟨rfl, fun u0 m => nomatch m⟩⟩⟩⟩ : ∀ j ∈ [0, 1, 2, 3], ([.str (mkS [10]), .str (mkS [9]), .str (mkS [13]), .str (mkS [32]), x] : List D)[j]? = some (.str (mkS (match j with | 0 => [10] | 1 => [9] | 2 => [13] | 3 => [32] | _ => if w % 4 < 2 then [] else [32, 10])))) j ((by decide : ∀ j < 4, j ∈ [0, 1, 2, 3]) j q)
  · rw [q]; exact congrArg some h
theorem sp_idx (w : Nat) : D.int (((w : Int).fdiv 4).fmod 5) = .int ((w / 4 % 5 : Nat) : Int) := by
  rw [show (4 : Int) = ((4 : Nat) : Int) from rfl, fdiv_nat, show (5 : Int) = ((5 : Nat) : Int) from rfl, fmod_nat]
theorem sp_told (w : Nat) (word : List Nat) : D.lst (word.zipIdx.map fun x => .str (mkS (encE (isEsc (markedL w) w x.2 x.1, x.1)))) = .lst ((((escL w word 0).map encE).map mkS).map .str) := by
  rw [escL_zip, List.map_map, List.map_map, List.map_map]; rfl
theorem spelled_body {C : Cx} {k ca : Nat} {w : Nat} {word : List Nat} {σ : St} (G : Names C) (hl : word.length ≤ 1000) : Body C k fd13 ca (pT 13).body [some (.str (mkS word)), some (.int (w : Nat)), none, none, none, none, none, none] σ (.str (mkS (spell word w))) σ := .ret fun A env hc' => by
  have hesc := escL_len w word 0
  have hz := encW_len (escL w word 0)
  have hg := gapL_len w
  refine TR_cons (TS_asg (i := 2) ((TE_cmp (TE_bin (tv 1 rfl) TE_int (bin_fmod (by decide))) TE_int cmp_lt rfl).val (congrArg D.bool (sp_q w))) rfl rfl rfl) ?_
  refine TR_cons (TS_asg (i := 3) (d := .str (mkS (markedL w))) (TE_ite (TB_value (tv 2 rfl) truth_bool) (fun h => TE_str.val (by unfold markedL; rw [if_pos (of_decide_eq_true h)]; rfl)) (fun h => TE_str.val (by unfold markedL; rw [if_neg (of_decide_eq_false h)]; rfl))) rfl rfl rfl) ?_
  refine TR_cons (TS_asg (i := 4) (d := .str (mkS (encW (escL w word 0)))) ((TE_join (sep := mkS []) (ss := ((escL w word 0).map encE).map mkS) (join_ok 2 (fun t m => by obtain ⟨l, q, rfl⟩ := List.mem_map.mp m; obtain ⟨e, q, rfl⟩ := List.mem_map.mp q; rw [mkS_len, mkS_len]; exact encE_len e) (by rw [List.length_map, List.length_map, hesc]; omega)) TE_str (.z _)
    (a1 ((TP.rest made_L (TP_lm [6, 7] (fun x : Nat × Nat => .tup [.int (x.2 : Nat), .str (mkS [x.1])]) (fun x => .str (mkS (encE (isEsc (markedL w) w x.2 x.1, x.1)))) word.zipIdx (TI_enum G.enum (by kernel_rfl) (tv 0 rfl) (enum_str (x := mkS word))) (enumD_map (fun c => .str (mkS [c])) word) (by rw [List.length_zipIdx]; omega) fun cenv x m =>
      ⟨.t (.cons (i := 6) rfl rfl (.cons (i := 7) rfl rfl (.nil _))), (Le.set rfl).trans (.set rfl), TE_ite (q := isEsc (markedL w) w x.2 x.1) (TB.to (TB_boolop (TB_or (TB_cmp (TE_bin (tv 1 rfl) TE_int (bin_fmod (by decide))) TE_int cmp_eqi rfl) (TB_or (TB_cmp (tv 7 rfl) (tv 3 rfl) cmp_ins rfl) (TB_or (TB_boolop (TB_and (TB_cmp (tv 7 rfl) TE_str cmp_eqs rfl) (TB_and (TB_cmp (tv 6 rfl) TE_int cmp_eqi rfl) TB_and_nil))) TB_or_nil)))) (sp_test w x.2 x.1))
        (fun h => (TE_bin TE_str (tv 7 rfl) (bin_adds (x := mkS [92]) (y := mkS [x.1]) (Nat.le_of_ble_eq_true rfl))).val (by rw [h]; rfl)) (fun h => TE.val (d := .str (mkS [x.1])) (tv 7 rfl) (by rw [h]; rfl))⟩)).val (sp_told w word)))).val (congrArg D.str (join_empty _))) rfl rfl rfl) ?_
  refine TR_cons (TS_asg (i := 5) (TE_idx (TE_tuple (ac TE_str (ac TE_str (ac TE_str (ac TE_str (a1 (TE_ite (d := .str (mkS (if w % 4 < 2 then [] else [32, 10]))) (TB_value (tv 2 rfl) truth_bool) (fun h => TE_str.val (by rw [if_pos (of_decide_eq_true h)]; rfl)) (fun h => TE_str.val (by rw [if_neg (of_decide_eq_false h)]; rfl)))))))) (Nat.le_of_ble_eq_true rfl))
    ((TE_bin (TE_bin (tv 1 rfl) TE_int (bin_fdiv (by decide) (by decide))) TE_int (bin_fmod (by decide))).val (sp_idx w)) (idx_tup (sp_gap w _ rfl) (by have := Nat.mod_lt (w / 4) (show 0 < 5 by decide); omega))) rfl rfl rfl) ?_
  unfold spell
  generalize encW (escL w word 0) = told at *
  generalize gapL w = gap at *
  exact TR_stop (TR_ret (TE_ite (TB_value (tv 2 rfl) truth_bool)
    (fun h => (TE_bin (TE_bin (TE_bin TE_str (tv 4 rfl) (bin_cat (a := [34]) (b := told) (by show 1 + _ ≤ _; omega))) TE_str (bin_cat (a := [34] ++ told) (b := [34]) (by rw [List.length_append]; show 1 + _ + 1 ≤ _; omega))) (tv 5 rfl) (bin_cat (a := [34] ++ told ++ [34]) (b := gap) (by rw [List.length_append, List.length_append]; show 1 + _ + 1 + _ ≤ _; omega))).val
      (by rw [if_pos (of_decide_eq_true h), List.append_assoc, List.append_assoc]; rfl))
    (fun h => (TE_bin (tv 4 rfl) (tv 5 rfl) (bin_cat (a := told) (b := gap) (by omega))).val (by rw [if_neg (of_decide_eq_false h)]))))
theorem spelled_fn {C : Cx} {fa : Addr} {w : Nat} {word : List Nat} {σ : St} (G : Names C) (F : Fn C "_law_spelled" (pT 13).params (pT 13).scope (pT 13).body fa) (hl : word.length ≤ 1000) : FnTo C 1 fa [.str (mkS word), .int (w : Nat)] σ (.str (mkS (spell word w))) σ :=
  fn_to (f := fd13) F G.lim fd13_ok (.cons 0 rfl rfl (.cons 1 rfl rfl .nil)) fun u0 u0 => spelled_body (k := 0) G hl
end Mine
end
section
open PySem PySem.W PyProof.Rows
namespace Mine
theorem set_eq {α : Type} {l : List α} {n : Nat} {a : α} (h : l[n]? = some a) : l.set n a = l := by
  obtain ⟨h1, h2⟩ := List.getElem?_eq_some_iff.mp h
  rw [← h2]; exact List.set_getElem_self h1
structure EPt where
  i : LamInfo
  e : Expr
  a : List Expr
  p : Nat × Nat
noncomputable def i0 : LamInfo := ⟨⟨[], [], none, [], [], none, []⟩, e0, default⟩
noncomputable def ept : Expr → EPt
  | .Lambda p b s q => ⟨⟨p, b, s⟩, e0, [], (q.line, q.col)⟩
  | .UnaryOp _ e _ => ⟨i0, e, [], (0, 0)⟩
  | .Call _ a _ _ => ⟨i0, e0, a, (0, 0)⟩
  | _ => ⟨i0, e0, [], (0, 0)⟩
noncomputable def lamE (e : Expr) : LamInfo := (ept e).i
noncomputable def valS (s : Stmt) : Expr := (prt s).e
structure LamAt (C : Cx) (j : Nat) (i : LamInfo) : Prop where
  is : C.LT j i
  uniq : ∀ i', C.LT j i' → i' = i
structure FnTab (C : Cx) (f : FnT) (fa P : Addr) : Prop where
  hd : ∀ c, FnAt C fa f.params f.scope f.body c → CodeHd C.h0 c P
  ba : C.h0.BuiltinsAt C.mg P
noncomputable def lam1 : LamInfo := lamE (valS ((pT 12).body.getD 2 (.Pass default)))
noncomputable def fdL1 : Fd := ⟨lam1.scope, ["size", "signs", "_"], [0], []⟩
noncomputable def sg (c : Nat) : D := .str (mkS [c])
noncomputable def rdC (IT : Nat) : List (Str × D) := [("signs", .loc IT)]
theorem fdL1_ok (IT : Nat) : fnB fdL1 lam1.params ((rdC IT).map (·.1)) = true := by
  show fnB fdL1 lam1.params ["signs"] = true
  kernel_rfl
theorem fdL1_free (IT : Nat) : ((rdC IT).map (·.1)).all (fun x => fdL1.scope.names.lookup x == some .free) = true := by
  show (["signs"] : List Str).all (fun x => fdL1.scope.names.lookup x == some .free) = true
  kernel_rfl
theorem TE_next2 {K : Ctx} {ρ : Rho} {σ σ₁ σ₂ : St} {n : Nat} {d : D} {l : List D} {e e' : Expr} {p pos : Pos} (G : Names K.C) (he : TE K ρ (eval e K.env) σ (.loc n) σ₁) (he' : TE K ρ (eval e' K.env) σ₁ d σ₂) (hn : σ₂[n]? = some (.it l)) (hk : K.fd.glob "next" = true := by kernel_rfl) (hu : unstarred [e, e'] = true := by rfl) (hs : unstarred [e] = true := by rfl) (hs' : unstarred [e'] = true := by rfl) :
    TE K ρ (eval (.Call (.Name "next" p) [e, e'] [] pos) K.env) σ (l.headD d) (σ₂.set n (.it l.tail)) :=
  TE_bi G.next hk rfl hu (a2 he he' hs hs') fun q r => by
    cases l with
    | nil => rw [List.tail_nil, set_eq hn]; exact bi_next0 hn q.o.room.handled q.I r
    | cons x l => exact bi_next2 hn q.I r
theorem kset_read {IT : Nat} : capR fdL1 (rdC IT) = [none, some (.loc IT), none] := by kernel_rfl
theorem read_lam {C : Cx} {IT : Nat} {cs : List Nat} {σ : St} (G : Names C) (hl : LamAt C 1 lam1) (h : σ[IT]? = some (.it (cs.map sg))) : LamTo C 1 1 (rdC IT) [.int 1] σ (.str (mkS (cs.take 1))) (σ.set IT (.it (cs.tail.map sg))) :=
  call_lam (f := fdL1) G.lim hl.uniq (fdL1_ok IT) (fdL1_free IT) (by rw [kset_read]; exact .cons 0 rfl rfl .nil) fun A env => by
    have hd : (cs.map sg).headD (.str ⟨#[]⟩) = .str (mkS (cs.take 1)) := by cases cs <;> rfl
    have ht : (cs.map sg).tail = cs.tail.map sg := by cases cs <;> rfl
    have hj : (cs.take 1).length ≤ 1 := List.length_take_le _ _
    exact ((TE_join (sep := ⟨#[]⟩) (ss := [mkS (cs.take 1)]) (join_ok 1 (fun t m => by cases List.mem_singleton.mp m; rw [mkS_len]; exact hj) (Nat.le_of_ble_eq_true rfl)) TE_str (.z _)
      (a1 (TP.rest made_L (TP_lc (own := [2]) (comp_l (by kernel_rfl)) (TI_range1 (n := 1) G.range (by kernel_rfl) rfl (a1 (tv 0 rfl)) (Nat.le_of_ble_eq_true rfl)) fun a cenv ha =>
        .act (.v (i := 2) rfl rfl) (.set rfl) TT_nil (TG_list ((TE_next2 G (tv 1 rfl) TE_str h).to ⟨hd, by rw [ht]⟩) ha (Nat.le_of_ble_eq_true rfl)) .nil)))).val (congrArg D.str ((join_empty [cs.take 1]).trans (congrArg mkS (List.append_nil _)))))
noncomputable def fd12 : Fd := ⟨(pT 12).scope, ["text", "signs", "stream"], [0, 1, 2], [1]⟩
theorem fd12_ok : fnB fd12 (pT 12).params [] = true := by kernel_rfl
noncomputable def rdF (IT : Nat) : List (Str × D) := [("read", .lam 1 (rdC IT))]
noncomputable def posE (e : Expr) : Nat × Nat := (ept e).p
noncomputable def lnS : List (Nat × Nat) := [posE (valS ((pT 12).body.getD 1 (.Pass default))), posE (valS ((pT 12).body.getD 2 (.Pass default)))]
theorem str_end {σ : St} {t : Nat} {P : Addr} {a b : List (Nat × Nat)} {x y z : AO} (ht : t < σ.length) : ((((σ ++ [x]).set t (.tab P a)) ++ [y]).set t (.tab P b)).set (σ.length + 1) z = σ.set t (.tab P b) ++ [x, z] := by
  rw [List.set_append_left _ _ ht, List.append_assoc, List.set_append_left _ _ (by rw [List.length_set]; exact ht), List.set_set, List.set_append_right _ _ (by rw [List.length_set]; exact Nat.le_succ _), List.length_set, Nat.add_sub_cancel_left]
  rfl
theorem stream_fn {C : Cx} {fa P : Addr} {t : Nat} {text : List Nat} {σ : St} (G : Names C) (F : Fn C "_law_stream" (pT 12).params (pT 12).scope (pT 12).body fa) (T : FnTab C (pT 12) fa P) (hl : LamAt C 1 lam1) (hz : text.length ≤ 1000000) (h : σ[t]? = some (.tab P [])) :
    FnTo C 1 fa [.str (mkS text)] σ (.loc (σ.length + 1)) (σ.set t (.tab P lnS) ++ [.it (text.map sg), .fo (rdF σ.length)]) := by
  have ht : t < σ.length := (List.getElem?_eq_some_iff.mp h).1
  refine fn_to (f := fd12) F G.lim fd12_ok (.cons 0 rfl rfl .nil) fun c hc => .ret fun A env hc' => ?_
  have h2 : (σ ++ [.it (text.map sg)])[t]? = some (.tab P []) := at_app h
  refine TR_cons (TS_asg (i := 1) (TE_bi G.iter (by kernel_rfl) rfl rfl (a1 (TE_listStr G.list (by kernel_rfl) (tv 0 rfl) (y := mkS text) (by rw [show (mkS text).cps.size = text.length from List.size_toArray]; exact Nat.le_trans hz (by decide)))) fun q r => bi_iter q.I r) rfl rfl rfl) ?_
  refine TR_cons (TS_asg (i := 2) ((TE_lam0 (t := t) ⟨⟨c, hc', T.hd c hc⟩, T.ba, h2⟩ rfl (by kernel_rfl)).to ⟨by rw [List.length_set, List.length_append], rfl⟩) rfl rfl rfl) ?_
  have h3 : ∀ {x y : AO}, ((σ ++ [AO.it (text.map sg)]).set t x ++ [y])[t]? = some x := fun {x y} => at_app (List.getElem?_set_self (by rw [List.length_append]; omega))
  have h4 : ∀ {x y z : AO}, (((σ ++ [AO.it (text.map sg)]).set t x ++ [y]).set t z)[σ.length + 1]? = some y := fun {x y z} => by
    rw [List.getElem?_set_ne (by omega), List.getElem?_append_right (by rw [List.length_set, List.length_append]; exact Nat.le_refl _), List.length_set, List.length_append]
    show [y][σ.length + 1 - (σ.length + 1)]? = _
    rw [Nat.sub_self]; rfl
  refine TR_cons (TS_setf fn_read (TE_lam (t := t) (j := 1) (c := rdC σ.length) ⟨⟨c, hc', T.hd c hc⟩, T.ba, h3⟩ rfl hl.is (.cons 1 rfl rfl (by kernel_rfl) .nil) (by kernel_rfl) (by show _ = true; kernel_rfl)) (tv 2 rfl) h4) ?_
  exact (TR_stop (TR_ret (tv 2 rfl))).to ⟨rfl, str_end ht⟩
end Mine
end
section
open PySem PySem.W PyProof.Rows
namespace Mine
structure Lx where
  ct : Addr
  L : Nat
  IT : Nat
  FO : Nat
  Pb : Nat
noncomputable def Lx.fs (x : Lx) (ln : Nat) : List (Str × D) := [("lineno", .int (ln : Nat)), ("instream", .loc x.FO), ("whitespace", .str (mkS [10, 9, 13, 32])), ("pushback", .loc x.Pb)]
noncomputable def Lx.at (x : Lx) (τ : St) (ln : Nat) (cs : List Nat) : St := (τ.set x.IT (.it (cs.map sg))).set x.L (.ins x.ct (x.fs ln))
structure Lx.H (x : Lx) (τ : St) : Prop where
  L : x.L < τ.length
  I : x.IT < τ.length
  ne : x.L ≠ x.IT
  fo : τ[x.FO]? = some (.fo (rdF x.IT))
  f1 : x.FO ≠ x.L
  f2 : x.FO ≠ x.IT
section
variable {x : Lx} {τ : St} {ln ln' : Nat} {cs cs' : List Nat} {m : Nat} {o : AO}
theorem Lx.len : (x.at τ ln cs).length = τ.length := by unfold Lx.at; rw [List.length_set, List.length_set]
theorem Lx.H.at_L (h : x.H τ) : (x.at τ ln cs)[x.L]? = some (.ins x.ct (x.fs ln)) := List.getElem?_set_self (by rw [List.length_set]; exact h.L)
theorem Lx.H.at_I (h : x.H τ) : (x.at τ ln cs)[x.IT]? = some (.it (cs.map sg)) := (List.getElem?_set_ne h.ne).trans (List.getElem?_set_self h.I)
theorem Lx.at_o (h1 : m ≠ x.L) (h2 : m ≠ x.IT) : (x.at τ ln cs)[m]? = τ[m]? := (List.getElem?_set_ne h1.symm).trans (List.getElem?_set_ne h2.symm)
theorem Lx.H.at_F (h : x.H τ) : (x.at τ ln cs)[x.FO]? = some (.fo (rdF x.IT)) := (Lx.at_o h.f1 h.f2).trans h.fo
theorem Lx.H.set_I (h : x.H τ) : (x.at τ ln cs).set x.IT (.it (cs'.map sg)) = x.at τ ln cs' := by unfold Lx.at; rw [List.set_comm _ _ h.ne, List.set_set]
theorem Lx.set_L : (x.at τ ln cs).set x.L (.ins x.ct (x.fs ln')) = x.at τ ln' cs := List.set_set ..
theorem Lx.H.app (h : x.H τ) : x.at (τ ++ [o]) ln cs = x.at τ ln cs ++ [o] := by
  unfold Lx.at
  rw [List.set_append_left _ _ h.I, List.set_append_left _ _ (by rw [List.length_set]; exact h.L)]
theorem Lx.H.more (h : x.H τ) : x.H (τ ++ [o]) := ⟨by rw [List.length_append]; exact Nat.lt_succ_of_lt h.L, by rw [List.length_append]; exact Nat.lt_succ_of_lt h.I, h.ne, at_app h.fo, h.f1, h.f2⟩
theorem Lx.H.same (h : x.H τ) (h1 : τ[x.L]? = some (.ins x.ct (x.fs ln))) (h2 : τ[x.IT]? = some (.it (cs.map sg))) : x.at τ ln cs = τ := by
  unfold Lx.at
  rw [set_eq h2, set_eq h1]
end
noncomputable def nl (c : Nat) : Nat := if c = 10 then 1 else 0
noncomputable def nls (l : List Nat) : Nat := (l.map nl).sum
theorem nls_cons (c : Nat) (l : List Nat) : nls (c :: l) = nl c + nls l := rfl
theorem nls_app (a b : List Nat) : nls (a ++ b) = nls a + nls b := by unfold nls; rw [List.map_append, List.sum_append]
noncomputable def isWs (c : Nat) : Bool := [10, 9, 13, 32].contains c
structure LexF (C : Cx) (c f2 f3 : Addr) : Prop where
  ln : InsFacts C c "lineno"
  ins : InsFacts C c "instream"
  ws : InsFacts C c "whitespace"
  pb : InsFacts C c "pushback"
  rd : Meth C c "_read_char" (pM 10 1).params (pM 10 1).scope (pM 10 1).body C.rc
  rf : MethFacts C c "_read_char" C.rc
  rb : BoundFacts C c "_read_char" C.rc
  gt : Meth C c "get_token" (pM 10 2).params (pM 10 2).scope (pM 10 2).body f2
  gf : MethFacts C c "get_token" f2
  pt : Meth C c "push_token" (pM 10 3).params (pM 10 3).scope (pM 10 3).body f3
  pf : MethFacts C c "push_token" f3
  lam : LamAt C 1 lam1
theorem Meth.isFn {C : Cx} {c : Addr} {x : Str} {params : Arguments} {scope : Scope} {body : List Stmt} {fa : Addr} (F : Meth C c x params scope body fa) : IsFn C fa := let ⟨_, a⟩ := F.at_; a.isFn
noncomputable def fdRC : Fd := ⟨(pM 10 1).scope, ["self", "ch"], [0, 1], []⟩
theorem fdRC_ok : fnB fdRC (pM 10 1).params [] = true := by kernel_rfl
noncomputable def fdPT : Fd := ⟨(pM 10 3).scope, ["self", "token"], [0, 1], []⟩
theorem fdPT_ok : fnB fdPT (pM 10 3).params [] = true := by kernel_rfl
noncomputable def fdNI : Fd := ⟨(pM 10 0).scope, ["self", "fp"], [0, 1], []⟩
theorem fdNI_ok : fnB fdNI (pM 10 0).params [] = true := by kernel_rfl
section
variable {C : Cx} {f0 f2 f3 : Addr} {x : Lx} {τ σ : St} {ln : Nat} {cs : List Nat}
theorem read_fn (G : Names C) (X : LexF C x.ct f2 f3) (h : x.H τ) : FnTo C 2 C.rc [.loc x.L] (x.at τ ln cs) (.str (mkS (cs.take 1))) (x.at τ (ln + nls (cs.take 1)) cs.tail) :=
  meth_to (f := fdRC) X.rd G.lim fdRC_ok (.cons 0 rfl rfl .nil) fun c => .ret fun A env hc => by
    refine TR_cons (TS_asg (i := 1) ((TE_fcall (read_lam G X.lam h.at_I) (Nat.le_refl _) fn_read (TE_attr X.ins (tv 0 rfl) h.at_L (by kernel_rfl)) h.at_F (by kernel_rfl) rfl (a1 TE_int)).st h.set_I) rfl rfl rfl) ?_
    cases cs with
    | nil => exact TR_cons (TS_if_f (TB.to (TB_cmp (tv 1 rfl) TE_str cmp_eqs rfl) (by kernel_rfl)) TS_nil) (TR_stop (TR_ret (tv 1 rfl)))
    | cons c r =>
      by_cases hc : c = 10
      · subst hc
        exact TR_cons (TS_if_t (TB.to (TB_cmp (tv 1 rfl) TE_str cmp_eqs rfl) (eq1 10 10)) (TS_cons ((TS_auga X.ln (tv 0 rfl) h.at_L (a := .int (ln : Nat)) (by kernel_rfl) TE_int ibin_add h.at_L (Nat.le_of_ble_eq_true rfl)).st Lx.set_L) TS_nil)) (TR_stop (TR_ret (tv 1 rfl)))
      · refine (TR_cons (TS_if_f (TB.to (TB_cmp (tv 1 rfl) TE_str cmp_eqs rfl) ((eq1 c 10).trans (beq_eq_false_iff_ne.mpr hc))) TS_nil) (TR_stop (TR_ret (tv 1 rfl)))).to ⟨rfl, ?_⟩
        rw [show nls ((c :: r).take 1) = 0 from congrArg (· + 0) (if_neg hc)]; rfl
theorem push_fn (G : Names C) (X : LexF C x.ct f2 f3) (t : D) (l : List D) (hL : σ[x.L]? = some (.ins x.ct (x.fs ln))) (hP : σ[x.Pb]? = some (.lst l)) (hl : l.length ≤ 1000000) : FnTo C 1 f3 [.loc x.L, t] σ .none (σ.set x.Pb (.lst (l ++ [t]))) :=
  meth_to (f := fdPT) X.pt G.lim fdPT_ok (.cons 0 rfl rfl (.cons 1 rfl rfl .nil)) fun c => .none _ fun A env hc =>
    TS_cons (TS_ex (TE_append hP hP (Nat.le_trans hl (by decide)) (TE_attr X.pb (tv 0 rfl) hL (by kernel_rfl)) (a1 (tv 1 rfl)))) TS_nil
theorem ninit_fn (G : Names C) (X : LexF C x.ct f2 f3) (F : Meth C x.ct "__init__" (pM 10 0).params (pM 10 0).scope (pM 10 0).body f0) (hL : σ[x.L]? = some (.ins x.ct [])) (hp : x.Pb = σ.length) : FnTo C 1 f0 [.loc x.L, .loc x.FO] σ .none (σ.set x.L (.ins x.ct (x.fs 1)) ++ [.lst []]) :=
  meth_to (f := fdNI) F G.lim fdNI_ok (.cons 0 rfl rfl (.cons 1 rfl rfl .nil)) fun c => .none _ fun A env hc => by
    have hl : x.L < σ.length := (List.getElem?_eq_some_iff.mp hL).1
    have hs : ∀ {o}, (σ.set x.L o)[x.L]? = some o := fun {o} => List.getElem?_set_self hl
    refine TS_cons (TS_seta X.ln TE_int (tv 0 rfl) hL (Nat.zero_le _)) (TS_cons ((TS_seta X.ins (tv 1 rfl) (tv 0 rfl) hs (Nat.le_of_ble_eq_true rfl)).st (List.set_set ..)) (TS_cons ((TS_seta X.ws TE_str (tv 0 rfl) hs (Nat.le_of_ble_eq_true rfl)).st (List.set_set ..))
      (TS_cons ((TS_seta X.pb ((TP_list an (Nat.zero_le _)).loc made_L) (tv 0 rfl) (at_app hs) (Nat.le_of_ble_eq_true rfl)).st ?_) TS_nil)))
    rw [List.set_append_left _ _ (by rw [List.length_set]; exact hl), List.set_set, List.length_set, ← hp]
    rfl
end
end Mine
end
section
open PySem PySem.W PyProof.Rows
namespace Mine
noncomputable def left (w : Nat) : List Nat := if w % 4 < 2 then gapL w else (gapL w).tail
noncomputable def took (word : List Nat) (w : Nat) : List Nat := if w % 4 < 2 then 34 :: (encW (escL w word 0) ++ [34]) else encW (escL w word 0) ++ (gapL w).take 1
theorem gapL_ws (w : Nat) : ∀ c ∈ gapL w, isWs c = true := by
  have h : (gapL w).all isWs = true := by unfold gapL; repeat' split
                                          all_goals rfl
  exact List.all_eq_true.mp h
theorem gapL_ne {w : Nat} (h : ¬ w % 4 < 2) : ∃ c r, gapL w = c :: r := by
  unfold gapL
  split <;> (try rw [if_neg h]) <;> exact ⟨_, _, rfl⟩
theorem escL_snd (w : Nat) : ∀ (word : List Nat) (p : Nat), (escL w word p).map (·.2) = word
  | [], _ => rfl
  | c :: r, p => congrArg (c :: ·) (escL_snd w r (p + 1))
theorem escL_mem (w : Nat) : ∀ (word : List Nat) (p : Nat) (e : Bool × Nat), e ∈ escL w word p → e.1 = false → (markedL w).contains e.2 = false
  | c :: r, p, e, h, hf => by
    rcases List.mem_cons.mp h with rfl | h
    · exact (Bool.or_eq_false_iff.mp (Bool.or_eq_false_iff.mp hf).2).1
    · exact escL_mem w r (p + 1) e h hf
noncomputable def fdGT : Fd := ⟨(pM 10 2).scope, ["self", "token", "fiter", "ch"], [0, 1, 2, 3], []⟩
theorem fdGT_ok : fnB fdGT (pM 10 2).params [] = true := by kernel_rfl
noncomputable def gR (L F : Nat) (acc : List Nat) : Rho := [some (.loc L), some (.str (mkS acc)), some (.loc F), none]
noncomputable def gE (L F : Nat) : Rho := [some (.loc L), none, some (.loc F), none]
structure GS where
  es : List (Bool × Nat)
  acc : List Nat
  ln : Nat
structure GS.P (b : GS) (bad : Nat → Bool) : Prop where
  es : ∀ e ∈ b.es, e.1 = false → bad e.2 = false ∧ e.2 ≠ 92
  l : b.acc.length + b.es.length ≤ 10000000
theorem GS.P.cons {e : Bool × Nat} {es : List (Bool × Nat)} {acc : List Nat} {ln : Nat} {bad : Nat → Bool} (h : GS.P ⟨e :: es, acc, ln⟩ bad) (ln' : Nat) : GS.P ⟨es, acc ++ [e.2], ln'⟩ bad :=
  ⟨fun z m => h.es z (.tail _ m), by have := h.l; dsimp only at this ⊢; rw [List.length_cons] at this; rw [List.length_append]; show _ + 1 + _ ≤ _; omega⟩
section
variable {C : Cx} {f2 f3 : Addr} {x : Lx} {τ : St} {ln k : Nat} {cs : List Nat} {A : Around} {env : Env} {F : Nat}
theorem nc_some (G : Names C) (X : LexF C x.ct f2 f3) (h : x.H τ) (hF : τ[F]? = some (.cit x.L true)) (h1 : F ≠ x.L) (h2 : F ≠ x.IT) (c : Nat) (r : List Nat) : Nc C 2 F () (x.at τ ln (c :: r)) (some (sg c)) () (x.at τ (ln + nl c) r) :=
  .some ((Lx.at_o h1 h2).trans hF) (read_fn G X h) ((Lx.at_o h1 h2).trans hF) fun q => nomatch mkS_inj.mp (q : mkS [c] = mkS [])
theorem nc_stop (G : Names C) (X : LexF C x.ct f2 f3) (h : x.H τ) (hF : τ[F]? = some (.cit x.L true)) (h1 : F ≠ x.L) (h2 : F ≠ x.IT) : Nc C 2 F () (x.at τ ln []) none () ((x.at τ ln []).set F (.cit x.L false)) :=
  .stop ((Lx.at_o h1 h2).trans hF) (read_fn G X h) ((Lx.at_o h1 h2).trans hF)
variable {ρ : Rho} {p p' p'' p3 : Pos} {whole : Sem Value}
theorem gt_ws (hk : 3 ≤ k) (X : LexF C x.ct f2 f3) (h : x.H τ) {c : Nat} (h0 : ρ[0]? = some (some (.loc x.L))) (h3 : ρ[3]? = some (some (sg c))) :
    TB (.fn C A k fdGT env) ρ (isTrue (.Compare (.Name "ch" p) [.In] [.Attribute (.Name "self" p') "whitespace" p''] p3) env whole) (x.at τ ln cs) (isWs c) (x.at τ ln cs) :=
  TB.to (TB_cmp (tv 3 h3) (TE_attr (K := .fn C A k fdGT env) X.ws (tv 0 h0) h.at_L (by kernel_rfl)) cmp_ins rfl) (in1 [10, 9, 13, 32] c)
theorem encW_cons (e : Bool × Nat) (es : List (Bool × Nat)) : encW (e :: es) = encE e ++ encW es := rfl
theorem word_run (G : Names C) (X : LexF C x.ct f2 f3) (h : x.H τ) (hF : τ[F]? = some (.cit x.L true)) (h1 : F ≠ x.L) (h2 : F ≠ x.IT) {body : List Stmt} {bad : Nat → Bool} {w : Nat} {rest : List Nat} (hw : bad w = true)
    (Hs : ∀ {c acc ln cs}, bad c = true → TS (.fn C A k fdGT env) ((gR x.L F acc).set 3 (some (sg c))) (execs body env) (x.at τ ln cs) (.ret (.str (mkS acc))) (gE x.L F) (x.at τ ln cs))
    (He : ∀ {c acc ln r}, acc.length ≤ 10000000 → TS (.fn C A k fdGT env) ((gR x.L F acc).set 3 (some (sg 92))) (execs body env) (x.at τ ln (c :: r)) .next (gR x.L F (acc ++ [c])) (x.at τ (ln + nl c) r))
    (Hp : ∀ {c acc ln cs}, bad c = false → c ≠ 92 → acc.length ≤ 10000000 → TS (.fn C A k fdGT env) ((gR x.L F acc).set 3 (some (sg c))) (execs body env) (x.at τ ln cs) .next (gR x.L F (acc ++ [c])) (x.at τ ln cs))
    (es : List (Bool × Nat)) (acc : List Nat) (ln : Nat) (hb : GS.P ⟨es, acc, ln⟩ bad) :
    Run (.fn C A k fdGT env) (Nc C 2 F) (.Name "ch" p) body [] es.length () (gR x.L F acc) (x.at τ ln (encW es ++ w :: rest)) (.ret (.str (mkS (acc ++ es.map (·.2))))) (gE x.L F) (x.at τ (ln + nls (encW es ++ [w])) rest) := by
  refine Run.wf (P := fun b : GS => b.P bad) (m := fun b => b.es.length) (i := fun u0 => ()) (R := fun b => gR x.L F b.acc) (S := fun b => x.at τ b.ln (encW b.es ++ w :: rest)) (F := fun b => ⟨.ret (.str (mkS (b.acc ++ b.es.map (·.2)))), gE x.L F, x.at τ (b.ln + nls (encW b.es ++ [w])) rest⟩) (fun b hb => ?_) es.length ⟨es, acc, ln⟩ hb (Nat.le_refl _)
  obtain ⟨es, acc, ln⟩ := b
  have hl : acc.length ≤ 10000000 := by have := hb.l; dsimp only at this; omega
  cases es with
  | nil => exact .ret () _ _ _ _ (by show Fl.ret _ = Fl.ret _; rw [List.map_nil, List.append_nil]) (nc_some G X h hF h1 h2 w rest) (.v (i := 3) rfl rfl) (Hs hw)
  | cons e es =>
    obtain ⟨b, c⟩ := e
    have hf : ∀ l, End.mk (.ret (.str (mkS (acc ++ [c] ++ es.map (·.2))))) (gE x.L F) (x.at τ (ln + nls l + nls (encW es ++ [w])) rest) = ⟨.ret (.str (mkS (acc ++ c :: es.map (·.2)))), gE x.L F, x.at τ (ln + nls (l ++ encW es ++ [w])) rest⟩ := fun l => by
      rw [List.append_assoc, List.append_assoc, nls_app l, Nat.add_assoc]; rfl
    cases b with
    | true =>
      exact .next ⟨es, acc ++ [c], ln + nls [92, c]⟩ _ _ _ (hb.cons _) (Nat.lt_succ_self _) (hf [92, c]) (nc_some G X h hF h1 h2 92 _) (.v (i := 3) rfl rfl) _ (.inl rfl) ((He (c := c) (ln := ln + nl 92) (r := encW es ++ w :: rest) hl).st (congrArg (x.at τ · _) (Nat.add_assoc ..)))
    | false =>
      have q := hb.es (false, c) (.head _) rfl
      exact .next ⟨es, acc ++ [c], ln + nls [c]⟩ _ _ _ (hb.cons _) (Nat.lt_succ_self _) (hf [c]) (nc_some G X h hF h1 h2 c _) (.v (i := 3) rfl rfl) _ (.inl rfl) (Hp q.1 q.2 hl)
end
end Mine
end
section
open PySem PySem.W PyProof.Rows
namespace Mine
section
variable {C : Cx} {f2 f3 : Addr} {x : Lx} {τ σ : St} {ln k : Nat} {cs : List Nat} {A : Around} {env : Env} {F : Nat} {ρ : Rho} {p p' p'' : Pos}
theorem Lx.no_rd : kget (x.fs ln) "_read_char" = none := by kernel_rfl
theorem TS.pre {K : Ctx} {ρ ρ' : Rho} {σ σ' : St} {fl : Fl} {u : Sem Flow} (i : Nat) (h : TS K (ρ.set i none) u σ fl ρ' σ') (hi : K.once.contains i = false := by rfl) : TS K ρ u σ fl ρ' σ' := fun u0 u0 p => h ⟨p.o, p.I, p.V.drop hi⟩
structure PW where
  pre : List Nat
  ln : Nat
theorem skip_run (G : Names C) (X : LexF C x.ct f2 f3) (h : x.H τ) (hF : τ[F]? = some (.cit x.L true)) (h1 : F ≠ x.L) (h2 : F ≠ x.IT) {body : List Stmt} {fl : Fl} {ρ' : Rho} {σ' : Nat → St} {cs : List Nat}
    (Hs : ∀ {c ln cs}, isWs c = true → TS (.fn C A k fdGT env) ((gR x.L F []).set 3 (some (sg c))) (execs body env) (x.at τ ln cs) .cont (gR x.L F []) (x.at τ ln cs))
    (H : ∀ ln, Turn (.fn C A k fdGT env) (Nc C 2 F) (.Name "ch" p) body [] (fun b : PW => ∀ c ∈ b.pre, isWs c = true) (fun b => b.pre.length) (fun u0 => ()) (fun u0 => gR x.L F []) (fun b => x.at τ b.ln (b.pre ++ cs)) (fun b => ⟨fl, ρ', σ' (b.ln + nls b.pre)⟩) ⟨[], ln⟩)
    (pre : List Nat) (ln : Nat) (hp : ∀ c ∈ pre, isWs c = true) : Run (.fn C A k fdGT env) (Nc C 2 F) (.Name "ch" p) body [] pre.length () (gR x.L F []) (x.at τ ln (pre ++ cs)) fl ρ' (σ' (ln + nls pre)) := by
  refine Run.wf (P := fun b : PW => ∀ c ∈ b.pre, isWs c = true) (m := fun b => b.pre.length) (i := fun u0 => ()) (R := fun u0 => gR x.L F []) (S := fun b => x.at τ b.ln (b.pre ++ cs)) (F := fun b => ⟨fl, ρ', σ' (b.ln + nls b.pre)⟩) (fun b hb => ?_) pre.length ⟨pre, ln⟩ hp (Nat.le_refl _)
  obtain ⟨pre, ln⟩ := b
  cases pre with
  | nil => exact H ln
  | cons c pre => exact .next ⟨pre, ln + nl c⟩ _ _ _ (fun z m => hb z (.tail _ m)) (Nat.lt_succ_self _) (congrArg (End.mk fl ρ' <| σ' ·) (Nat.add_assoc ..)) (nc_some G X h hF h1 h2 c _) (.v (i := 3) rfl rfl) _ (.inr rfl) (Hs (hb c (.head _)))
noncomputable def forB (s : Stmt) : List Stmt := (prt s).b
noncomputable def gtB : List Stmt := forB ((pM 10 2).body.getD 3 (.Pass default))
theorem gtB_ws (X : LexF C x.ct f2 f3) (h : x.H τ) {c : Nat} (hk : 3 ≤ k) (hw : isWs c = true) : TS (.fn C A k fdGT env) ((gR x.L F []).set 3 (some (sg c))) (execs gtB env) (x.at τ ln cs) .cont (gR x.L F []) (x.at τ ln cs) :=
  TS.fgt [3] (TS_stop (TS_if_t (TB.to (gt_ws hk X h rfl rfl) hw) (TS_stop TS_cont fun q => nomatch q)) fun q => nomatch q)
theorem ac_set (L F : Nat) (acc : List Nat) (c : Nat) (d : D) : (((gR L F acc).set 3 (some d)).set 1 (some (.str (mkS (acc ++ [c]))))).set 3 none = gR L F (acc ++ [c]) := rfl
theorem bare_ok {w : Nat} (h : ¬ w % 4 < 2) {word : List Nat} {p : Nat} (hz : word.length ≤ 1000) {acc : List Nat} (ha : acc.length ≤ 1) (ln : Nat) : GS.P ⟨escL w word p, acc, ln⟩ isWs :=
  ⟨fun e m hf => by
    have := escL_mem w word p e m hf
    rw [show markedL w = [92, 10, 9, 13, 32] from if_neg h, List.contains_cons, Bool.or_eq_false_iff] at this
    exact ⟨this.2, beq_eq_false_iff_ne.mp this.1⟩, by show acc.length + (escL w word p).length ≤ _; rw [escL_len]; omega⟩
theorem quot_ok {w : Nat} (h : w % 4 < 2) {word : List Nat} (hz : word.length ≤ 1000) (ln : Nat) : GS.P ⟨escL w word 0, [], ln⟩ (· == 34) :=
  ⟨fun e m hf => by
    have := escL_mem w word 0 e m hf
    rw [show markedL w = [92, 34] from if_pos h, List.contains_cons, Bool.or_eq_false_iff, List.contains_cons, Bool.or_eq_false_iff] at this
    exact ⟨this.2.1, beq_eq_false_iff_ne.mp this.1⟩, by rw [escL_len]; show 0 + _ ≤ _; omega⟩
theorem ws34 {c : Nat} (h : isWs c = true) : (c == 34) = false ∧ (c == 92) = false := by
  rcases List.mem_cons.mp (List.contains_iff_mem.mp h) with rfl | m
  · exact ⟨rfl, rfl⟩
  rcases List.mem_cons.mp m with rfl | m
  · exact ⟨rfl, rfl⟩
  rcases List.mem_cons.mp m with rfl | m
  · exact ⟨rfl, rfl⟩
  cases List.mem_singleton.mp m
  exact ⟨rfl, rfl⟩
noncomputable def bodyOf (s : Stmt) : List Stmt := (prt s).b
noncomputable def elseOf (s : Stmt) : List Stmt := (prt s).o
noncomputable def gtQ : List Stmt := forB ((bodyOf (gtB.getD 1 (.Pass default))).getD 0 (.Pass default))
noncomputable def gtW : List Stmt := forB ((elseOf (gtB.getD 1 (.Pass default))).getD 2 (.Pass default))
theorem cat_le {acc : List Nat} {c : Nat} (hl : acc.length ≤ 10000000) : acc.length + [c].length ≤ 16777216 := Nat.le_trans (Nat.add_le_add_right hl 1) (Nat.le_of_ble_eq_true rfl)
section
variable {c : Nat} {acc r : List Nat}
theorem gq_s (hc : (c == 34) = true) : TS (.fn C A k fdGT env) ((gR x.L F acc).set 3 (some (sg c))) (execs gtQ env) (x.at τ ln cs) (.ret (.str (mkS acc))) (gE x.L F) (x.at τ ln cs) :=
  TS.fgt [1, 3] (TS_stop (TS_if_t (TB.to (TB_cmp (tv 3 rfl) TE_str cmp_eqs rfl) ((eq1 c 34).trans hc)) (TS_stop (TS_ret (tv 1 rfl)) (fun q => nomatch q))) (fun q => nomatch q))
theorem gq_e (G : Names C) (X : LexF C x.ct f2 f3) (h : x.H τ) (hk : 3 ≤ k) (hl : acc.length ≤ 10000000) : TS (.fn C A k fdGT env) ((gR x.L F acc).set 3 (some (sg 92))) (execs gtQ env) (x.at τ ln (c :: r)) .next (gR x.L F (acc ++ [c])) (x.at τ (ln + nl c) r) :=
  TS.fgt [3] (TS_cons (TS_if_f (TB.to (TB_cmp (tv 3 rfl) TE_str cmp_eqs rfl) (eq1 92 34)) (TS_cons (TS_if_t (TB.to (TB_cmp (tv 3 rfl) TE_str cmp_eqs rfl) (eq1 92 92)) (TS_cons (TS_asg (i := 3) (TE_mcall (read_fn G X h) (Nat.le_of_succ_le hk) X.rf X.rd.isFn rfl (tv 0 rfl) h.at_L Lx.no_rd an) rfl rfl rfl) TS_nil)) TS_nil))
        (TS_cons (TS_aug (i := 1) (by kernel_rfl) rfl (tv 3 rfl) (ibin_cat (a := acc) (b := [c]) (cat_le hl)) rfl) TS_nil))
theorem gq_p (hc : (c == 34) = false) (h92 : c ≠ 92) (hl : acc.length ≤ 10000000) : TS (.fn C A k fdGT env) ((gR x.L F acc).set 3 (some (sg c))) (execs gtQ env) (x.at τ ln cs) .next (gR x.L F (acc ++ [c])) (x.at τ ln cs) :=
  TS.fgt [3] (TS_cons (TS_if_f (TB.to (TB_cmp (tv 3 rfl) TE_str cmp_eqs rfl) ((eq1 c 34).trans hc)) (TS_cons (TS_if_f (TB.to (TB_cmp (tv 3 rfl) TE_str cmp_eqs rfl) ((eq1 c 92).trans (beq_eq_false_iff_ne.mpr h92))) TS_nil) TS_nil))
        (TS_cons (TS_aug (i := 1) (by kernel_rfl) rfl (tv 3 rfl) (ibin_cat (a := acc) (b := [c]) (cat_le hl)) rfl) TS_nil))
theorem gb_s (X : LexF C x.ct f2 f3) (h : x.H τ) (hk : 3 ≤ k) (hc : isWs c = true) : TS (.fn C A k fdGT env) ((gR x.L F acc).set 3 (some (sg c))) (execs gtW env) (x.at τ ln cs) (.ret (.str (mkS acc))) (gE x.L F) (x.at τ ln cs) :=
  TS.fgt [1, 3] (TS_stop (TS_if_t (TB.to (gt_ws hk X h rfl rfl) hc) (TS_stop (TS_ret (tv 1 rfl)) (fun q => nomatch q))) (fun q => nomatch q))
theorem gb_e (G : Names C) (X : LexF C x.ct f2 f3) (h : x.H τ) (hk : 3 ≤ k) (hl : acc.length ≤ 10000000) : TS (.fn C A k fdGT env) ((gR x.L F acc).set 3 (some (sg 92))) (execs gtW env) (x.at τ ln (c :: r)) .next (gR x.L F (acc ++ [c])) (x.at τ (ln + nl c) r) :=
  TS.fgt [3] (TS_cons (TS_if_f (TB.to (gt_ws hk X h rfl rfl) (show isWs 92 = false from rfl)) (TS_cons (TS_if_t (TB.to (TB_cmp (tv 3 rfl) TE_str cmp_eqs rfl) (eq1 92 92)) (TS_cons (TS_asg (i := 3) (TE_mcall (read_fn G X h) (Nat.le_of_succ_le hk) X.rf X.rd.isFn rfl (tv 0 rfl) h.at_L Lx.no_rd an) rfl rfl rfl) TS_nil)) TS_nil))
        (TS_cons (TS_aug (i := 1) (by kernel_rfl) rfl (tv 3 rfl) (ibin_cat (a := acc) (b := [c]) (cat_le hl)) rfl) TS_nil))
theorem gb_p (X : LexF C x.ct f2 f3) (h : x.H τ) (hk : 3 ≤ k) (hc : isWs c = false) (h92 : c ≠ 92) (hl : acc.length ≤ 10000000) : TS (.fn C A k fdGT env) ((gR x.L F acc).set 3 (some (sg c))) (execs gtW env) (x.at τ ln cs) .next (gR x.L F (acc ++ [c])) (x.at τ ln cs) :=
  TS.fgt [3] (TS_cons (TS_if_f (TB.to (gt_ws hk X h rfl rfl) hc) (TS_cons (TS_if_f (TB.to (TB_cmp (tv 3 rfl) TE_str cmp_eqs rfl) ((eq1 c 92).trans (beq_eq_false_iff_ne.mpr h92))) TS_nil) TS_nil))
        (TS_cons (TS_aug (i := 1) (by kernel_rfl) rfl (tv 3 rfl) (ibin_cat (a := acc) (b := [c]) (cat_le hl)) rfl) TS_nil))
end
section
variable (G : Names C) (X : LexF C x.ct f2 f3) (h : x.H τ) (hF : τ[F]? = some (.cit x.L true)) (h1 : F ≠ x.L) (h2 : F ≠ x.IT) (hk : 3 ≤ k)
include G X h hF h1 h2 hk
theorem gt_q {word rest : List Nat} {w : Nat} (h4 : w % 4 < 2) (hwl : word.length ≤ 1000) (ln : Nat) :
    Run (.fn C A k fdGT env) (Nc C 2 F) (.Name "ch" p) gtQ [] (escL w word 0).length () (gR x.L F []) (x.at τ ln (encW (escL w word 0) ++ 34 :: rest)) (.ret (.str (mkS word))) (gE x.L F) (x.at τ (ln + nls (encW (escL w word 0) ++ [34])) rest) := by
  have run := word_run (p := p) (A := A) (env := env) (k := k) G X h hF h1 h2 (body := gtQ) (bad := (· == 34)) (w := 34) (rest := rest) rfl gq_s (gq_e G X h hk) gq_p (escL w word 0) [] ln (quot_ok h4 hwl _)
  rwa [List.nil_append, escL_snd] at run
theorem gt_b {word rest acc : List Nat} {w g i : Nat} (h4 : ¬ w % 4 < 2) (hg : isWs g = true) (hwl : word.length ≤ 1000) (ha : acc.length ≤ 1) (ln : Nat) :
    Run (.fn C A k fdGT env) (Nc C 2 F) (.Name "ch" p) gtW [] (escL w word i).length () (gR x.L F acc) (x.at τ ln (encW (escL w word i) ++ g :: rest)) (.ret (.str (mkS (acc ++ word)))) (gE x.L F) (x.at τ (ln + nls (encW (escL w word i) ++ [g])) rest) := by
  have run := word_run (p := p) (A := A) (env := env) (k := k) G X h hF h1 h2 (body := gtW) (bad := isWs) (w := g) (rest := rest) hg (gb_s X h hk) (gb_e G X h hk) (gb_p X h hk) (escL w word i) acc ln (bare_ok h4 hwl ha _)
  rwa [escL_snd] at run
theorem gt_turn {word rest : List Nat} {w : Nat} (hw0 : word ≠ []) (hwl : word.length ≤ 1000) (ln : Nat) :
    Turn (.fn C A k fdGT env) (Nc C 2 F) (.Name "ch" p) gtB [] (fun b : PW => ∀ c ∈ b.pre, isWs c = true) (fun b => b.pre.length) (fun u0 => ()) (fun u0 => gR x.L F []) (fun b => x.at τ b.ln (b.pre ++ (spell word w ++ rest))) (fun b => ⟨.ret (.str (mkS word)), gE x.L F, x.at τ (b.ln + nls b.pre + nls (took word w)) (left w ++ rest)⟩) ⟨[], ln⟩ := by
  unfold spell took left
  by_cases h4 : w % 4 < 2
  · rw [if_pos h4, if_pos h4, if_pos h4, show (34 :: (encW (escL w word 0) ++ 34 :: gapL w)) ++ rest = 34 :: (encW (escL w word 0) ++ 34 :: (gapL w ++ rest)) from congrArg (34 :: ·) (List.append_assoc ..)]
    refine .ret () _ _ _ _ rfl (nc_some G X h hF h1 h2 34 _) (.v (i := 3) rfl rfl) (TS.st (σ₁ := x.at τ (ln + nl 34 + nls (encW (escL w word 0) ++ [34])) (gapL w ++ rest)) ?_ (congrArg (x.at τ · _) (Nat.add_assoc ..)))
    exact TS_cons (TS_if_f (TB.to (gt_ws hk X h rfl rfl) (show isWs 34 = false from rfl)) TS_nil) (TS_stop (TS_if_t (TB.to (TB_cmp (tv 3 rfl) TE_str cmp_eqs rfl) (eq1 34 34)) (TS.pre 3 (TS_stop (TS_forc X.rd.isFn hk (tv 2 rfl) ((Lx.at_o h1 h2).trans hF) (.inl rfl)
      (gt_q G X h hF h1 h2 hk h4 hwl _)) (fun q => nomatch q)))) (fun q => nomatch q))
  · rw [if_neg h4, if_neg h4, if_neg h4]
    obtain ⟨g, gs, hg⟩ := gapL_ne h4
    have hgw : isWs g = true := gapL_ws w g (by rw [hg]; exact .head _)
    cases word with
    | nil => exact absurd rfl hw0
    | cons c word =>
      have hwl : word.length ≤ 1000 := Nat.le_of_succ_le hwl
      have q := (bare_ok (p := 0) (acc := []) h4 (word := [c]) (Nat.le_of_ble_eq_true rfl) (Nat.zero_le _) 0).es (isEsc (markedL w) w 0 c, c) (.head _)
      have q34 : isEsc (markedL w) w 0 c = false → (c == 34) = false := fun e => by
        have := (Bool.or_eq_false_iff.mp (Bool.or_eq_false_iff.mp e).2).2
        rwa [show ((0 : Nat) == 0) = true from rfl, Bool.and_true] at this
      rw [hg, show encW (escL w (c :: word) 0) = encE (isEsc (markedL w) w 0 c, c) ++ encW (escL w word 1) from rfl, List.append_assoc, List.append_assoc]
      cases he : isEsc (markedL w) w 0 c with
      | true =>
        refine .ret () _ _ _ _ rfl (nc_some G X h hF h1 h2 92 _) (.v (i := 3) rfl rfl) (TS.st (σ₁ := x.at τ (ln + nl 92 + nl c + nls (encW (escL w word 1) ++ [g])) (gs ++ rest)) ?_ ?_)
        · exact TS_cons (TS_if_f (TB.to (gt_ws hk X h rfl rfl) (show isWs 92 = false from rfl)) TS_nil) (TS_stop (TS_if_f (TB.to (TB_cmp (tv 3 rfl) TE_str cmp_eqs rfl) (eq1 92 34))
            (TS_cons (TS_if_t (TB.to (TB_cmp (tv 3 rfl) TE_str cmp_eqs rfl) (eq1 92 92)) (TS_cons (TS_asg (i := 3) (TE_mcall (read_fn G X h) (Nat.le_of_succ_le hk) X.rf X.rd.isFn rfl (tv 0 rfl) h.at_L Lx.no_rd an) rfl rfl rfl) TS_nil))
            (TS_cons (TS_aug (i := 1) (by kernel_rfl) rfl (tv 3 rfl) (ibin_cat (a := []) (b := [c]) (cat_le (Nat.zero_le _))) rfl) (TS.pre 3 (TS_stop (TS_forc X.rd.isFn hk (tv 2 rfl) ((Lx.at_o h1 h2).trans hF) (.inl rfl)
              (gt_b G X h hF h1 h2 hk h4 hgw hwl (Nat.le_refl _) _)) (fun q => nomatch q)))))) (fun q => nomatch q))
        · exact congrArg (x.at τ · _) (by rw [Nat.add_assoc, Nat.add_assoc]; rfl)
      | false =>
        obtain ⟨q1, q2⟩ := q he
        refine .ret () _ _ _ _ rfl (nc_some G X h hF h1 h2 c _) (.v (i := 3) rfl rfl) (TS.st (σ₁ := x.at τ (ln + nl c + nls (encW (escL w word 1) ++ [g])) (gs ++ rest)) ?_ ?_)
        · exact TS_cons (TS_if_f (TB.to (gt_ws hk X h rfl rfl) q1) TS_nil) (TS_stop (TS_if_f (TB.to (TB_cmp (tv 3 rfl) TE_str cmp_eqs rfl) ((eq1 c 34).trans (q34 he)))
            (TS_cons (TS_if_f (TB.to (TB_cmp (tv 3 rfl) TE_str cmp_eqs rfl) ((eq1 c 92).trans (beq_eq_false_iff_ne.mpr q2))) TS_nil)
            (TS_cons (TS_aug (i := 1) (by kernel_rfl) rfl (tv 3 rfl) (ibin_cat (a := []) (b := [c]) (cat_le (Nat.zero_le _))) rfl) (TS.pre 3 (TS_stop (TS_forc X.rd.isFn hk (tv 2 rfl) ((Lx.at_o h1 h2).trans hF) (.inl rfl)
              (gt_b G X h hF h1 h2 hk h4 hgw hwl (Nat.le_refl _) _)) (fun q => nomatch q)))))) (fun q => nomatch q))
        · exact congrArg (x.at τ · _) (Nat.add_assoc ..)
end
end
end Mine
end
section
open PySem PySem.W PyProof.Rows
namespace Mine
section
variable {C : Cx} {f2 f3 : Addr} {x : Lx} {τ σ : St} {ln k : Nat} {cs pre : List Nat} {A : Around} {env : Env} {F : Nat} {ρ : Rho} {p p' p'' : Pos}
theorem get_push (G : Names C) (X : LexF C x.ct f2 f3) (t : D) (l : List D) (hL : σ[x.L]? = some (.ins x.ct (x.fs ln))) (hP : σ[x.Pb]? = some (.lst (t :: l))) (hl : l.length ≤ 100000) : FnTo C 1 f2 [.loc x.L] σ t (σ.set x.Pb (.lst l)) :=
  meth_to (f := fdGT) X.gt G.lim fdGT_ok (.cons 0 rfl rfl .nil) fun c => .ret fun A env hc =>
    TR_stop (TR_if_t (TB_value (TE_attr X.pb (tv 0 rfl) hL (by kernel_rfl)) (truth_lst (.o hP) (Nat.succ_le_of_lt (Nat.lt_of_le_of_lt hl (by decide)))))
      (TR_stop (TR_ret (TE_pop0 hP hP (Nat.le_trans hl (by decide)) (TE_attr X.pb (tv 0 rfl) hL (by kernel_rfl)) (a1 TE_int)))))
theorem get_read (G : Names C) (X : LexF C x.ct f2 f3) (h : x.H σ) (hp1 : x.Pb ≠ x.L) (hp2 : x.Pb ≠ x.IT) (hP : σ[x.Pb]? = some (.lst [])) {d : D} {σ₁ : St} {fl : Fl} {ρ' : Rho} {n : Nat}
    (r : ∀ {A env p}, Run (.fn C A 3 fdGT env) (Nc C 2 σ.length) (.Name "ch" p) gtB [] n () (gR x.L σ.length []) (x.at (σ ++ [.cit x.L true]) ln cs) fl ρ' σ₁) (hf : fl = .ret d ∨ fl = .next ∧ d = .str (mkS []) ∧ ρ' = gR x.L σ.length []) : FnTo C 4 f2 [.loc x.L] (x.at σ ln cs) d σ₁ :=
  meth_to (f := fdGT) X.gt G.lim fdGT_ok (.cons 0 rfl rfl .nil) fun c => .ret fun A env hc => by
    have hp : (x.at σ ln cs)[x.Pb]? = some (.lst []) := (Lx.at_o hp1 hp2).trans hP
    refine TR_cons (TS_if_f (TB.to (TB_value (TE_attr X.pb (tv 0 rfl) h.at_L (by kernel_rfl)) (truth_lst (.o hp) (Nat.zero_le _))) rfl) TS_nil) ?_
    refine TR_cons (TS_asg (i := 1) TE_str rfl rfl rfl) ?_
    refine TR_cons (TS_asg (i := 2) ((TE_citer G.iter (by kernel_rfl) X.rb (tv 0 rfl) h.at_L Lx.no_rd).to ⟨congrArg D.loc Lx.len, h.app.symm⟩) rfl rfl rfl) ?_
    have hF : (x.at (σ ++ [.cit x.L true]) ln cs)[σ.length]? = some (.cit x.L true) := by rw [h.app]; exact Lx.len (x := x) (τ := σ) ▸ at_len
    rcases hf with rfl | ⟨rfl, rfl, rfl⟩
    · exact TR_stop (TR_of (TS_forc X.rd.isFn (Nat.le_refl _) (tv 2 rfl) hF (.inl rfl) r))
    · exact TR_cons (TS_forc X.rd.isFn (Nat.le_refl _) (tv 2 rfl) hF (.inl rfl) r) (TR_stop (TR_ret (tv 1 rfl)))
theorem get_word (G : Names C) (X : LexF C x.ct f2 f3) (h : x.H σ) (hp1 : x.Pb ≠ x.L) (hp2 : x.Pb ≠ x.IT) (hP : σ[x.Pb]? = some (.lst [])) (hpre : ∀ c ∈ pre, isWs c = true) {word rest : List Nat} {w : Nat} (hw0 : word ≠ []) (hwl : word.length ≤ 1000) :
    FnTo C 4 f2 [.loc x.L] (x.at σ ln (pre ++ (spell word w ++ rest))) (.str (mkS word)) (x.at σ (ln + nls pre + nls (took word w)) (left w ++ rest) ++ [.cit x.L true]) := by
  rw [← h.app]
  have n1 : σ.length ≠ x.L := (Nat.ne_of_lt h.L).symm
  have n2 : σ.length ≠ x.IT := (Nat.ne_of_lt h.I).symm
  exact get_read G X h hp1 hp2 hP (fun {A env p} => skip_run G X h.more at_len n1 n2 (σ' := fun n => x.at (σ ++ [.cit x.L true]) (n + nls (took word w)) (left w ++ rest)) (gtB_ws X h.more (Nat.le_refl _)) (gt_turn G X h.more at_len n1 n2 (Nat.le_refl _) hw0 hwl) pre ln hpre) (.inl rfl)
theorem get_end (G : Names C) (X : LexF C x.ct f2 f3) (h : x.H σ) (hp1 : x.Pb ≠ x.L) (hp2 : x.Pb ≠ x.IT) (hP : σ[x.Pb]? = some (.lst [])) (hpre : ∀ c ∈ pre, isWs c = true) :
    FnTo C 4 f2 [.loc x.L] (x.at σ ln (pre ++ [])) (.str (mkS [])) (x.at σ (ln + nls pre) [] ++ [.cit x.L false]) := by
  have n1 : σ.length ≠ x.L := (Nat.ne_of_lt h.L).symm
  have n2 : σ.length ≠ x.IT := (Nat.ne_of_lt h.I).symm
  have e : ∀ n, (x.at (σ ++ [.cit x.L true]) n []).set σ.length (.cit x.L false) = x.at σ n [] ++ [.cit x.L false] := fun n => by
    rw [h.app]; exact Lx.len (x := x) (τ := σ) ▸ set_len
  exact get_read G X h hp1 hp2 hP (fun {A env p} => skip_run G X h.more at_len n1 n2 (σ' := fun n => x.at σ n [] ++ [.cit x.L false]) (gtB_ws X h.more (Nat.le_refl _)) (fun ln => .done () _ (e ln ▸ nc_stop G X h.more at_len n1 n2) TS_nil) pre ln hpre) (.inr ⟨rfl, rfl, rfl⟩)
end
end Mine
end
section
open PySem PySem.W PyProof.Rows
namespace Mine
theorem aget_set {α β : Type} [DecidableEq α] (l : List (α × β)) (k : α) (d : β) (x : α) : aget (aset l k d) x = if k = x then some d else aget l x := by
  induction l with
  | nil => simp [aset, aget]
  | cons p r ih =>
    obtain ⟨j, e⟩ := p
    unfold aset
    by_cases h : j = k
    · subst h; rw [if_pos rfl]; simp only [aget]
      by_cases q : j = x <;> simp [q]
    · rw [if_neg h]; simp only [aget]; rw [ih]
      by_cases q : j = x
      · subst q; rw [if_pos rfl, if_neg (fun z => h z.symm), if_pos rfl]
      · rw [if_neg q, if_neg q]
theorem aset_keys {α β : Type} [DecidableEq α] (l : List (α × β)) (k : α) (d : β) : (aset l k d).map (·.1) = if k ∈ l.map (·.1) then l.map (·.1) else l.map (·.1) ++ [k] := by
  induction l with
  | nil => simp [aset]
  | cons p r ih =>
    obtain ⟨j, e⟩ := p
    unfold aset
    by_cases h : j = k
    · subst h; simp
    · rw [if_neg h, List.map_cons, ih, List.map_cons]
      have : ¬ k = j := fun z => h z.symm
      by_cases m : k ∈ r.map (·.1)
      · rw [if_pos m, if_pos (List.mem_cons_of_mem _ m)]
      · rw [if_neg m, if_neg (by simp [this]; simpa using m)]; rfl
open PySem.StrLaws PySem.Builtin PySem.Builtin.Str
theorem mkS_of (s : Str) : mkS s.cps.toList = s := rfl
theorem mkS_list (l : List Nat) : (mkS l).cps.toList = l := rfl
theorem glue_go2 (g : Array Nat) : ∀ (ps : List Str) (acc : Array Nat), (ps.foldl (fun acc p => acc ++ g ++ p.cps) acc).toList = acc.toList ++ ps.flatMap fun p => g.toList ++ p.cps.toList
  | [], acc => by simp
  | p :: ps, acc => by
    rw [List.foldl_cons, glue_go2 g ps]
    simp
noncomputable def jn : List (List Nat) → List Nat
  | [] => []
  | [p] => p
  | p :: q :: r => p ++ 44 :: 32 :: jn (q :: r)
theorem jn_flat : ∀ (r : List (List Nat)) (p : List Nat), jn (p :: r) = p ++ r.flatMap fun q => 44 :: 32 :: q
  | [], p => by simp [jn]
  | q :: r, p => by simp [jn, jn_flat r q]
theorem join_comma (ps : List (List Nat)) : Txt.join sComma (ps.map mkS) = mkS (jn ps) := by
  show Builtin.Str.glued sComma _ = _
  unfold Builtin.Str.glued
  cases ps with
  | nil => rfl
  | cons p ps =>
    simp only [List.map_cons, List.drop_succ_cons, List.drop_zero, List.headD_cons]
    unfold mkS
    congr 1
    apply Array.toList_inj.mp
    rw [glue_go2, jn_flat, List.flatMap_map]
    simp [sComma, mkS]
theorem at_comma (l : List Nat) (k : Nat) : StrLaws.At (mkS l) sComma (mkS l).length k ↔ l[k]? = some 44 ∧ l[k + 1]? = some 32 := by
  unfold StrLaws.At
  rw [subAt_eq, mkS_list, mkS_len]
  show k + 2 ≤ l.length ∧ ((l.drop k).take 2 == [44, 32]) = true ↔ _
  rw [beq_iff_eq]
  constructor
  · rintro ⟨h1, h2⟩
    have e1 := congrArg (·[0]?) h2
    have e2 := congrArg (·[1]?) h2
    simp at e1 e2
    exact ⟨e1, e2⟩
  · rintro ⟨h1, h2⟩
    have := (List.getElem?_eq_some_iff.mp h2).1
    refine ⟨by omega, ?_⟩
    apply List.ext_getElem?
    intro i
    match i with
    | 0 => simp [h1]
    | 1 => simp [h2]
    | i + 2 => simp [List.getElem?_take]; omega
theorem split_go : ∀ (r : List (List Nat)) (pre p : List Nat) (cuts : List Nat) (f : Nat), (∀ q ∈ p :: r, 44 ∉ q) → ChainG (mkS (pre ++ jn (p :: r))) sComma (mkS (pre ++ jn (p :: r))).length pre.length cuts f →
    (∀ k, f ≤ k → ¬ StrLaws.At (mkS (pre ++ jn (p :: r))) sComma (mkS (pre ++ jn (p :: r))).length k) → partsFrom (mkS (pre ++ jn (p :: r))) 2 pre.length cuts = (p :: r).map mkS ∧ cuts.length = r.length
  | [], pre, p, cuts, f, hp, hG, hn => by
    have hp := hp p (.head _)
    cases cuts with
    | cons c cs =>
      have ⟨h1, h2, _, _⟩ := hG
      rw [at_comma] at h2
      have e := h2.1
      simp only [jn] at e
      rw [List.getElem?_append_right h1] at e
      exact absurd (List.mem_of_getElem? e) hp
    | nil =>
      refine ⟨?_, rfl⟩
      simp only [partsFrom, List.map_cons, List.map_nil, List.cons.injEq, and_true, jn]
      apply Str.ext'
      apply Array.toList_inj.mp
      rw [strSub_toList, mkS_list, mkS_list, mkS_len]
      simp
  | q :: r, pre, p, cuts, f, hp, hG, hn => by
    have h44 := hp p (.head _)
    have hx : pre ++ jn (p :: q :: r) = (pre ++ p ++ [44, 32]) ++ jn (q :: r) := by simp [jn]
    have hat : StrLaws.At (mkS (pre ++ jn (p :: q :: r))) sComma (mkS (pre ++ jn (p :: q :: r))).length (pre.length + p.length) := by
      rw [at_comma]
      constructor
      · simp only [jn]
        rw [← List.append_assoc, List.getElem?_append_right (by simp)]
        simp
      · simp only [jn]
        rw [← List.append_assoc, List.getElem?_append_right (by simp <;> omega)]
        rw [List.length_append, show pre.length + p.length + 1 - (pre.length + p.length) = 1 by omega]; rfl
    cases cuts with
    | nil =>
      have e : f = pre.length := hG
      exact absurd hat (hn _ (by omega))
    | cons c cs =>
      have ⟨h1, h2, h3, h4⟩ := hG
      have hc : c = pre.length + p.length := by
        rcases Nat.lt_trichotomy c (pre.length + p.length) with h | h | h
        · rw [at_comma] at h2
          have e := h2.1
          simp only [jn] at e
          rw [List.getElem?_append_right h1, List.getElem?_append_left (by omega)] at e
          exact absurd (List.mem_of_getElem? e) h44
        · exact h
        · exact absurd hat (h3 _ (by omega) h)
      subst hc
      have hlen : (pre ++ p ++ [44, 32]).length = pre.length + p.length + 2 := by simp; omega
      have hG' : ChainG (mkS ((pre ++ p ++ [44, 32]) ++ jn (q :: r))) sComma (mkS ((pre ++ p ++ [44, 32]) ++ jn (q :: r))).length (pre ++ p ++ [44, 32]).length cs f := by
        rw [hlen, ← hx]; exact h4
      have ⟨r1, r2⟩ := split_go r (pre ++ p ++ [44, 32]) q cs f (fun x m => hp x (.tail _ m)) hG' (by rw [← hx]; exact hn)
      rw [← hx, hlen] at r1
      refine ⟨?_, by simp [r2]⟩
      simp only [partsFrom, List.map_cons] at r1 ⊢
      rw [r1]
      congr 1
      apply Str.ext'
      apply Array.toList_inj.mp
      rw [strSub_toList, mkS_list, mkS_list]
      simp [jn]
theorem comma_split (p : List Nat) (r : List (List Nat)) (h : ∀ q ∈ p :: r, 44 ∉ q) : Txt.split (mkS (jn (p :: r))) sComma = (p :: r).map mkS ∧ Txt.count (mkS (jn (p :: r))) sComma = (r.length : Nat) ∧
    (partsBetween (mkS (jn (p :: r))) (occurrences (mkS (jn (p :: r))) sComma 0 (mkS (jn (p :: r))).length ((mkS (jn (p :: r))).length + 1)) sComma.length) = (p :: r).map mkS := by
  obtain ⟨f, hG, hn⟩ := occ_tight (mkS (jn (p :: r))) sComma (by decide)
  have ⟨e1, e2⟩ := split_go r [] p _ f h hG hn
  simp only [List.nil_append, List.length_nil] at e1
  refine ⟨?_, ?_, ?_⟩
  · unfold Txt.split
    cases r with
    | nil =>
      have e0 := List.length_eq_zero_iff.mp e2
      rw [e0]
      simp [jn]
    | cons q r =>
      rw [if_neg, if_neg, partsBetween_eq]
      · exact e1
      · intro hz
        have := List.isEmpty_iff.mp hz
        rw [this] at e2
        cases e2
      · rw [Bool.or_eq_true, decide_eq_true_eq, decide_eq_true_eq, mkS_len]
        rintro (z | z)
        · simp [jn, sComma, Str.length] at z
          omega
        · have k1 : Builtin.Str.strKind sComma = 1 := by decide +kernel
          rw [k1] at z
          unfold Builtin.Str.strKind at z
          split at z
          · omega
          · split at z <;> omega
  · unfold Txt.count
    rw [e2]
  · rw [partsBetween_eq]; exact e1
noncomputable def bits (m : Nat) : List Nat := (List.range 6).filter m.testBit
noncomputable def nmA (low i : Nat) : Str := nmF (low + i)
noncomputable def tokA (low m : Nat) : Str := Txt.join sComma ((bits m).map (nmA low))
theorem nm_free : ∀ p < 33, 44 ∉ (nmF p).cps.toList := by decide +kernel
theorem nmF_inj : ∀ p < 33, ∀ q < 33, nmF p = nmF q → p = q := by
  have h : ((List.range 33).all fun p => (List.range 33).all fun q => Nat.beq p q || !(nmF p == nmF q)) = true := by decide +kernel
  intro p hp q hq e
  have h1 := List.all_eq_true.mp (List.all_eq_true.mp h p (List.mem_range.mpr hp)) q (List.mem_range.mpr hq)
  rw [e] at h1
  simp at h1
  exact h1
theorem bits_lt {m i : Nat} (h : i ∈ bits m) : i < 6 ∧ m.testBit i = true := by
  simp only [bits, List.mem_filter, List.mem_range] at h
  exact h
theorem mem_bits {m i : Nat} : i ∈ bits m ↔ i < 6 ∧ m.testBit i = true := by
  simp only [bits, List.mem_filter, List.mem_range]
theorem nmA_inj {low i j : Nat} (hl : low < 28) (hi : i < 6) (hj : j < 6) (h : nmA low i = nmA low j) : i = j := by
  have := nmF_inj _ (by omega) _ (by omega) h
  omega
theorem tok_jn (low m : Nat) : tokA low m = mkS (jn ((bits m).map fun i => (nmA low i).cps.toList)) := by
  unfold tokA
  rw [← join_comma, List.map_map]
  refine congrArg _ (List.map_congr_left fun i u0 => ?_)
  exact (mkS_of _).symm
theorem tok_split {low m : Nat} (hl : low < 28) (h : bits m ≠ []) : Txt.split (tokA low m) sComma = (bits m).map (nmA low) ∧ Txt.count (tokA low m) sComma + 1 = ((bits m).length : Nat) ∧
    (partsBetween (tokA low m) (occurrences (tokA low m) sComma 0 (tokA low m).length ((tokA low m).length + 1)) sComma.length) = (bits m).map (nmA low) := by
  rw [tok_jn]
  have hb : ∀ q ∈ (bits m).map (fun i => (nmA low i).cps.toList), 44 ∉ q := by
    intro q hq
    obtain ⟨i, hi, rfl⟩ := List.mem_map.mp hq
    exact nm_free _ (by have := (bits_lt hi).1; omega)
  have hmk : ((bits m).map (fun i => (nmA low i).cps.toList)).map mkS = (bits m).map (nmA low) := by
    rw [List.map_map]
    apply List.map_congr_left
    intro i _
    exact mkS_of _
  rw [← hmk]
  have hlen : ((bits m).map (fun i => (nmA low i).cps.toList)).length = (bits m).length := by simp
  rw [← hlen]
  generalize (bits m).map (fun i => (nmA low i).cps.toList) = ps at hb hmk
  cases ps with
  | nil => rw [List.map_nil] at hmk; rw [eq_comm, List.map_eq_nil_iff] at hmk; exact absurd hmk h
  | cons p r =>
    have ⟨e1, e2, e3⟩ := comma_split p r hb
    refine ⟨e1, ?_, e3⟩
    rw [e2]
    simp
theorem map_inj_on {α β : Type} {f : α → β} : ∀ {a b : List α}, (∀ x ∈ a, ∀ y ∈ b, f x = f y → x = y) → a.map f = b.map f → a = b
  | [], [], _, _ => rfl
  | [], _ :: _, _, h => by simp at h
  | _ :: _, [], _, h => by simp at h
  | x :: a, y :: b, hf, h => by
    simp only [List.map_cons, List.cons.injEq] at h
    rw [hf x (.head _) y (.head _) h.1, map_inj_on (fun x m y m' => hf x (.tail _ m) y (.tail _ m')) h.2]
theorem bits_inj {m k : Nat} (hm : m < 64) (hk : k < 64) (h : bits m = bits k) : m = k := by
  apply Nat.eq_of_testBit_eq
  intro i
  by_cases hi : i < 6
  · have : i ∈ bits m ↔ i ∈ bits k := by rw [h]
    rw [mem_bits, mem_bits] at this
    cases h1 : m.testBit i <;> cases h2 : k.testBit i <;> simp_all
  · rw [Nat.testBit_lt_two_pow (Nat.lt_of_lt_of_le hm (Nat.pow_le_pow_right (n := 2) (by decide) (Nat.le_of_not_lt hi))), Nat.testBit_lt_two_pow (Nat.lt_of_lt_of_le hk (Nat.pow_le_pow_right (n := 2) (by decide) (Nat.le_of_not_lt hi)))]
theorem bits_ne {m : Nat} (hm : m < 64) (h : m ≠ 0) : bits m ≠ [] := by
  intro e
  exact h (bits_inj hm (by decide) (by rw [e]; rfl))
theorem tok_inj {low m k : Nat} (hl : low < 28) (hm : m < 64) (hk : k < 64) (h0 : m ≠ 0) (h1 : k ≠ 0) (h : tokA low m = tokA low k) : m = k := by
  have a := (tok_split hl (bits_ne hm h0)).1
  have b := (tok_split hl (bits_ne hk h1)).1
  rw [h, b] at a
  refine bits_inj hm hk (map_inj_on ?_ a.symm)
  intro x hx y hy e
  exact nmA_inj hl (bits_lt hx).1 (bits_lt hy).1 e
theorem tok_one (low i : Nat) (hi : i < 6) : tokA low (2 ^ i) = nmA low i := by
  have : ∀ i < 6, bits (2 ^ i) = [i] := by decide
  unfold tokA
  rw [this i hi]
  rfl
theorem nmA_len {low i : Nat} (hl : low < 28) (hi : i < 6) : (nmA low i).length ≤ 20 := nmF_len _ (by omega)
theorem jn_len : ∀ (ps : List (List Nat)) (B : Nat), (∀ q ∈ ps, q.length ≤ B) → (jn ps).length ≤ (B + 2) * ps.length
  | [], B, _ => by simp [jn]
  | [p], B, h => by have := h p (.head _); simp [jn]; omega
  | p :: q :: r, B, h => by
    have h1 := h p (.head _)
    have h2 := jn_len (q :: r) B fun x m => h x (.tail _ m)
    simp only [jn, List.length_append, List.length_cons, Nat.mul_add] at h2 ⊢
    omega
theorem bits_le (m : Nat) : (bits m).length ≤ 6 := by
  unfold bits
  exact Nat.le_trans (List.length_filter_le _ _) (by simp)
theorem tok_len {low m : Nat} (hl : low < 28) : (tokA low m).length ≤ 200 := by
  rw [tok_jn, mkS_len]
  have h := jn_len ((bits m).map fun i => (nmA low i).cps.toList) 20 (by
    intro q hq
    obtain ⟨i, hi, rfl⟩ := List.mem_map.mp hq
    have := nmA_len hl (bits_lt hi).1
    simpa [Str.length] using this)
  have := bits_le m
  rw [List.length_map] at h
  omega
end Mine
end
section
open PySem PySem.W PyProof.Rows
namespace Mine
noncomputable def foldMin (a : Int) (l : List Int) : Int := l.foldl (fun m x => if x < m then x else m) a
end Mine
namespace Mine.E2
theorem tb_lt {m i : Nat} (h : m < 64) (hi : m.testBit i = true) : i < 6 := by
  rcases Nat.lt_or_ge i 6 with h1 | h1
  · exact h1
  · rw [Nat.testBit_lt_two_pow (Nat.lt_of_lt_of_le h (Nat.pow_le_pow_right (n := 2) (by decide) h1))] at hi
    cases hi
theorem m_ext {m k : Nat} (hm : m < 64) (hk : k < 64) (h : ∀ i < 6, m.testBit i = k.testBit i) : m = k := by
  apply Nat.eq_of_testBit_eq
  intro i
  rcases Nat.lt_or_ge i 6 with h1 | h1
  · exact h i h1
  · rw [Nat.testBit_lt_two_pow (Nat.lt_of_lt_of_le hm (Nat.pow_le_pow_right (n := 2) (by decide) h1)), Nat.testBit_lt_two_pow (Nat.lt_of_lt_of_le hk (Nat.pow_le_pow_right (n := 2) (by decide) h1))]
noncomputable def m6 (a b c d e f : Bool) : Nat := (bif a then 1 else 0) + (bif b then 2 else 0) + (bif c then 4 else 0) + (bif d then 8 else 0) + (bif e then 16 else 0) + bif f then 32 else 0
noncomputable def mkM (p : Nat → Bool) : Nat := m6 (p 0) (p 1) (p 2) (p 3) (p 4) (p 5)
theorem m6_ok : ∀ a b c d e f : Bool, m6 a b c d e f < 64 ∧ ∀ j < 6, (m6 a b c d e f).testBit j = [a, b, c, d, e, f].getD j false := by decide +kernel
theorem mkM_bit (p : Nat → Bool) (j : Nat) (h : j < 6) : (mkM p).testBit j = p j := by
  refine ((m6_ok ..).2 j h).trans ?_
  show ((List.range 6).map p).getD j false = p j
  rw [List.getD_eq_getElem?_getD, List.getElem?_map, List.getElem?_range h]; rfl
theorem mkM_lt (p : Nat → Bool) : mkM p < 64 := (m6_ok ..).1
theorem le_of_bits {a b : Nat} (h : ∀ i, a.testBit i = true → b.testBit i = true) : a ≤ b := by
  have : a &&& b = a := by
    apply Nat.eq_of_testBit_eq
    intro i
    rw [Nat.testBit_and]
    cases ha : a.testBit i
    · rfl
    · rw [h i ha]; rfl
  rw [← this]
  exact Nat.and_le_right
theorem or_bit (k v i : Nat) : (k ||| 2 ^ v).testBit i = (k.testBit i || decide (v = i)) := by
  rw [Nat.testBit_or, Nat.testBit_two_pow]
theorem or_lt {a b : Nat} (h : a < 64) (k : b < 64) : a ||| b < 64 := Nat.or_lt_two_pow (n := 6) h k
theorem pow_lt {v : Nat} (h : v < 6) : 2 ^ v < 64 := Nat.pow_lt_pow_right (n := 6) (by decide) h
noncomputable def hit (S k : Nat) : Bool := (List.range 6).any fun i => S.testBit i && k.testBit i
theorem hit_iff {S k : Nat} : hit S k = true ↔ ∃ i < 6, S.testBit i = true ∧ k.testBit i = true := by
  simp [hit]
theorem hit_no {S k : Nat} : hit S k = false ↔ ∀ i < 6, S.testBit i = true → k.testBit i = false := by
  rw [← Bool.not_eq_true, hit_iff]
  constructor
  · intro h i hi hs
    cases hk : k.testBit i
    · rfl
    · exact absurd ⟨i, hi, hs, hk⟩ h
  · rintro h ⟨i, hi, hs, hk⟩
    rw [h i hi hs] at hk; cases hk
noncomputable abbrev Gs := List (Nat × Int)
noncomputable def dual (gs : Gs) (u v : Nat) : Int := (gs.map fun p => if p.1.testBit v && !p.1.testBit u then p.2 else 0).sum
noncomputable def pot (gs : Gs) (k : Nat) : Int := (gs.map fun p => if hit p.1 k then p.2 else 0).sum
theorem dual_cons (gs : Gs) (p : Nat × Int) (u v : Nat) : dual (p :: gs) u v = (if (p.1.testBit v && !p.1.testBit u) = true then p.2 else 0) + dual gs u v := by
  simp only [dual, List.map_cons, List.sum_cons]
theorem pot_cons (gs : Gs) (p : Nat × Int) (k : Nat) : pot (p :: gs) k = (if hit p.1 k = true then p.2 else 0) + pot gs k := by
  simp only [pot, List.map_cons, List.sum_cons]
theorem dual_app (gs : Gs) (p : Nat × Int) (u v : Nat) : dual (gs ++ [p]) u v = dual gs u v + if p.1.testBit v && !p.1.testBit u then p.2 else 0 := by
  simp [dual]
theorem pot_app (gs : Gs) (p : Nat × Int) (k : Nat) : pot (gs ++ [p]) k = pot gs k + if hit p.1 k then p.2 else 0 := by
  simp [pot]
theorem hit_or {S k v : Nat} (h : hit S k = true) : hit S (k ||| 2 ^ v) = true := by
  obtain ⟨i, h1, h2, h3⟩ := hit_iff.mp h
  exact hit_iff.mpr ⟨i, h1, h2, by rw [or_bit, h3]; rfl⟩
inductive Gr (c : Nat → Nat → Int) (gs : Gs) (k : Nat) : Nat → Prop
  | refl : Gr c gs k k
  | step {k'} (v u : Nat) : Gr c gs k k' → v < 6 → v ≠ 0 → k'.testBit v = false → u < 6 → k'.testBit u = true → c v u ≤ pot gs (k' ||| 2 ^ v) - pot gs k' → Gr c gs k (k' ||| 2 ^ v)
theorem Gr.trans {c : Nat → Nat → Int} {gs : Gs} {a b d : Nat} (h : Gr c gs a b) (k : Gr c gs b d) : Gr c gs a d := by
  induction k with
  | refl => exact h
  | step v u _ h1 h2 h3 h4 h5 h6 ih => exact .step v u ih h1 h2 h3 h4 h5 h6
theorem Gr.mono {c : Nat → Nat → Int} {gs : Gs} {a b : Nat} (p : Nat × Int) (hp : 0 ≤ p.2) (h : Gr c gs a b) : Gr c (gs ++ [p]) a b := by
  induction h with
  | refl => exact .refl
  | step v u _ h1 h2 h3 h4 h5 h6 ih =>
    refine .step v u ih h1 h2 h3 h4 h5 ?_
    rw [pot_app, pot_app]
    rename_i k' _
    cases hk : hit p.1 k' with
    | true => rw [hit_or hk]; simp; omega
    | false => cases hit p.1 (k' ||| 2 ^ v) <;> simp <;> omega
theorem pot_dual {gs : Gs} {k u v : Nat} (hv : v < 6) (hy : ∀ p ∈ gs, 0 ≤ p.2) (h : ∀ p ∈ gs, p.1.testBit v = true → p.1.testBit u = false → hit p.1 k = false) : dual gs u v ≤ pot gs (k ||| 2 ^ v) - pot gs k := by
  induction gs with
  | nil => simp [dual, pot]
  | cons p gs ih =>
    have ih := ih (fun q m => hy q (.tail _ m)) fun q m => h q (.tail _ m)
    have hp := hy p (.head _)
    have h0 := h p (.head _)
    rw [dual_cons, pot_cons, pot_cons]
    cases hk : hit p.1 k with
    | true =>
      rw [hit_or hk]
      have : (p.1.testBit v && !p.1.testBit u) = false := by
        cases hv : p.1.testBit v
        · rfl
        · cases hu : p.1.testBit u
          · rw [h0 hv hu] at hk; cases hk
          · rfl
      rw [this]; simp only [if_true, Bool.false_eq_true, if_false]; omega
    | false =>
      cases hb : (p.1.testBit v && !p.1.testBit u) with
      | true =>
        rw [Bool.and_eq_true] at hb
        have : hit p.1 (k ||| 2 ^ v) = true := hit_iff.mpr ⟨v, hv, hb.1, by rw [or_bit]; simp⟩
        rw [this]; simp only [if_true, Bool.false_eq_true, if_false]; omega
      | false => cases hit p.1 (k ||| 2 ^ v) <;> simp only [if_true, Bool.false_eq_true, if_false] <;> omega
noncomputable def inM (m : Nat) : List Nat := (List.range 6).filter m.testBit
noncomputable def prs (m : Nat) : List (Nat × Nat) := (inM m).tail.flatMap fun v => ((inM m).filter fun u => u != v).map fun u => (v, u)
noncomputable def minOf : List Int → Int
  | [] => 0
  | a :: l => foldMin a l
noncomputable def V (c : Nat → Nat → Int) : Nat → Nat → Int
  | 0, _ => 0
  | n + 1, m => if m = 1 then 0 else minOf ((prs m).map fun p => V c n (m ^^^ 2 ^ p.1) + c p.1 p.2)
theorem foldMin_le (l : List Int) : ∀ a, foldMin a l ≤ a ∧ ∀ x ∈ l, foldMin a l ≤ x := by
  induction l with
  | nil => intro a; exact ⟨Int.le_refl _, fun u0 h => by cases h⟩
  | cons b l ih =>
    intro a
    have h := ih (if b < a then b else a)
    have e : foldMin a (b :: l) = foldMin (if b < a then b else a) l := rfl
    rw [e]
    have h1 := h.1
    have h2 : (if b < a then b else a) ≤ a ∧ (if b < a then b else a) ≤ b := by split <;> omega
    refine ⟨by omega, ?_⟩
    · intro x hx
      rcases List.mem_cons.mp hx with rfl | hx
      · omega
      · exact h.2 x hx
theorem foldMin_mem (l : List Int) : ∀ a, foldMin a l ∈ a :: l := by
  induction l with
  | nil => intro a; exact .head _
  | cons b l ih =>
    intro a
    have e : foldMin a (b :: l) = foldMin (if b < a then b else a) l := rfl
    have h := ih (if b < a then b else a)
    rw [e]
    rcases List.mem_cons.mp h with h | h
    · rw [h]; split
      · exact .tail _ (.head _)
      · exact .head _
    · exact .tail _ (.tail _ h)
theorem minOf_le {l : List Int} {x : Int} (h : x ∈ l) : minOf l ≤ x := by
  cases l with
  | nil => cases h
  | cons a l =>
    rcases List.mem_cons.mp h with rfl | h
    · exact (foldMin_le l _).1
    · exact (foldMin_le l _).2 x h
theorem minOf_mem {l : List Int} (h : l ≠ []) : minOf l ∈ l := by
  cases l with
  | nil => exact absurd rfl h
  | cons a l => exact foldMin_mem l a
theorem inM_mem {m i : Nat} : i ∈ inM m ↔ i < 6 ∧ m.testBit i = true := by simp [inM]
theorem r5 : ∀ i : Nat, i ∈ [1, 2, 3, 4, 5] ↔ i < 6 ∧ i ≠ 0 := fun i => ⟨(by decide : ∀ j ∈ [1, 2, 3, 4, 5], j < 6 ∧ j ≠ 0) i, fun h => (by decide : ∀ j < 6, j ≠ 0 → j ∈ [1, 2, 3, 4, 5]) i h.1 h.2⟩
theorem all5 {P : Nat → Prop} (h1 : P 1) (h2 : P 2) (h3 : P 3) (h4 : P 4) (h5 : P 5) {i : Nat} (hi : i < 6) (h0 : i ≠ 0) : P i :=
  (List.forall_mem_cons.mpr ⟨h1, List.forall_mem_cons.mpr ⟨h2, List.forall_mem_cons.mpr ⟨h3, List.forall_mem_cons.mpr ⟨h4, List.forall_mem_cons.mpr ⟨h5, fun u0 m => nomatch m⟩⟩⟩⟩⟩ : ∀ x ∈ [1, 2, 3, 4, 5], P x) i ((r5 i).mpr ⟨hi, h0⟩)
theorem inM_odd {m : Nat} (h : m.testBit 0 = true) : inM m = 0 :: (inM m).tail ∧ ∀ i, i ∈ (inM m).tail ↔ i < 6 ∧ i ≠ 0 ∧ m.testBit i = true := by
  have e : inM m = 0 :: ([1, 2, 3, 4, 5].filter m.testBit) := (List.filter_cons (x := 0) (xs := [1, 2, 3, 4, 5])).trans (if_pos h)
  rw [e]
  exact ⟨rfl, fun i => List.mem_filter.trans ((and_congr_left fun u0 => r5 i).trans and_assoc)⟩
theorem prs_mem {m v u : Nat} (h : m.testBit 0 = true) : (v, u) ∈ prs m ↔ v < 6 ∧ v ≠ 0 ∧ m.testBit v = true ∧ u < 6 ∧ m.testBit u = true ∧ u ≠ v := by
  unfold prs
  simp only [List.mem_flatMap, (inM_odd h).2, List.mem_map, List.mem_filter, inM_mem, bne_iff_ne, Prod.mk.injEq]
  constructor
  · rintro ⟨a, ⟨h1, h2, h3⟩, b, ⟨⟨h4, h5⟩, h6⟩, rfl, rfl⟩
    exact ⟨h1, h2, h3, h4, h5, h6⟩
  · rintro ⟨h1, h2, h3, h4, h5, h6⟩
    exact ⟨v, ⟨h1, h2, h3⟩, u, ⟨⟨h4, h5⟩, h6⟩, rfl, rfl⟩
theorem xor_bit (m v i : Nat) : (m ^^^ 2 ^ v).testBit i = (m.testBit i ^^ decide (v = i)) := by
  rw [Nat.testBit_xor, Nat.testBit_two_pow]
theorem xor_lt {m v : Nat} (h : m.testBit v = true) : m ^^^ 2 ^ v < m := by
  apply Nat.lt_of_le_of_ne
  · apply le_of_bits
    intro i hi
    rw [xor_bit] at hi
    by_cases e : v = i
    · rw [← e]; exact h
    · simpa [e] using hi
  · intro e
    have := xor_bit m v v
    rw [e, h] at this
    simp at this
theorem V_fuel (c : Nat → Nat → Int) : ∀ n k m, m < n → m < k → m.testBit 0 = true → V c n m = V c k m
  | 0, _, _, h, _, _ => by omega
  | _, 0, _, _, h, _ => by omega
  | n + 1, k + 1, m, h1, h2, h0 => by
    simp only [V]
    by_cases e : m = 1
    · rw [if_pos e, if_pos e]
    · rw [if_neg e, if_neg e]
      congr 1
      apply List.map_congr_left
      rintro ⟨v, u⟩ hm
      have hp := (prs_mem h0).mp hm
      have hl := xor_lt hp.2.2.1
      simp only
      rw [V_fuel c n k _ (by omega) (by omega) (by rw [xor_bit, h0]; simp [hp.2.1])]
theorem V_eq (c : Nat → Nat → Int) (m : Nat) (h : m < 64) (h0 : m.testBit 0 = true) (h1 : m ≠ 1) : V c 64 m = minOf ((prs m).map fun p => V c 64 (m ^^^ 2 ^ p.1) + c p.1 p.2) := by
  rw [V_fuel c 64 65 m h (by omega) h0]
  show (if m = 1 then 0 else _) = _
  rw [if_neg h1]
theorem prs_ne {m : Nat} (h : m < 64) (h0 : m.testBit 0 = true) (h1 : m ≠ 1) : prs m ≠ [] := by
  have : ∃ v, v < 6 ∧ v ≠ 0 ∧ m.testBit v = true := by
    apply Classical.byContradiction
    intro hn
    apply h1
    apply m_ext h (by decide)
    intro i hi
    by_cases e : i = 0
    · rw [e, h0]; rfl
    · cases hb : m.testBit i
      · have : ∀ i < 6, i ≠ 0 → Nat.testBit 1 i = false := by decide
        rw [this i hi e]
      · exact absurd ⟨i, hi, e, hb⟩ hn
  obtain ⟨v, h2, h3, h4⟩ := this
  intro e
  have := (prs_mem (m := m) (v := v) (u := 0) h0).mpr ⟨h2, h3, h4, by decide, h0, fun z => h3 z.symm⟩
  rw [e] at this
  cases this
section
variable {c : Nat → Nat → Int} {gs : Gs}
theorem weak (hy : ∀ p ∈ gs, 0 ≤ p.2) (hr : ∀ u < 6, ∀ v < 6, v ≠ 0 → u ≠ v → dual gs u v ≤ c v u) (h0 : ∀ p ∈ gs, p.1.testBit 0 = false) : ∀ n m, m < n → m < 64 → m.testBit 0 = true → pot gs m ≤ V c 64 m
  | 0, _, h, _, _ => by omega
  | n + 1, m, hn, hm, hb => by
    by_cases e : m = 1
    · subst e
      have e1 : V c 64 1 = 0 := rfl
      rw [e1]
      have : ∀ gs : Gs, (∀ p ∈ gs, p.1.testBit 0 = false) → pot gs 1 = 0 := by
        intro gs
        induction gs with
        | nil => intro _; rfl
        | cons p gs ih =>
          intro h
          rw [pot_cons, ih fun q m => h q (.tail _ m), if_neg]
          · rfl
          · rw [Bool.not_eq_true, hit_no]
            intro i hi hs
            by_cases ei : i = 0
            · subst ei; rw [h p (.head _)] at hs; cases hs
            · have : ∀ i < 6, i ≠ 0 → Nat.testBit 1 i = false := by decide
              exact this i hi ei
      have := this gs h0
      omega
    · rw [V_eq c m hm hb e]
      have hmem := minOf_mem (l := (prs m).map fun p => V c 64 (m ^^^ 2 ^ p.1) + c p.1 p.2) (by
        intro z; exact prs_ne hm hb e (List.map_eq_nil_iff.mp z))
      obtain ⟨⟨v, u⟩, hp, he⟩ := List.mem_map.mp hmem
      rw [← he]
      have hp := (prs_mem hb).mp hp
      have hl := xor_lt hp.2.2.1
      have ih := weak hy hr h0 n (m ^^^ 2 ^ v) (by omega) (by omega) (by rw [xor_bit, hb]; simp [hp.2.1])
      have hd := hr u hp.2.2.2.1 v hp.1 hp.2.1 hp.2.2.2.2.2
      simp only
      have : pot gs m ≤ pot gs (m ^^^ 2 ^ v) + dual gs u v := by
        clear ih hd he hmem hr
        induction gs with
        | nil => simp [pot, dual]
        | cons q gs ih =>
          have ih := ih (fun q m => hy q (.tail _ m)) fun q m => h0 q (.tail _ m)
          have hq := hy q (.head _)
          rw [dual_cons, pot_cons, pot_cons]
          cases h1 : hit q.1 (m ^^^ 2 ^ v) with
          | true => cases hit q.1 m <;> cases (q.1.testBit v && !q.1.testBit u) <;> simp only [if_true, Bool.false_eq_true, if_false] <;> omega
          | false =>
            cases h2 : hit q.1 m with
            | false => cases (q.1.testBit v && !q.1.testBit u) <;> simp only [if_true, Bool.false_eq_true, if_false] <;> omega
            | true =>
              obtain ⟨i, i1, i2, i3⟩ := hit_iff.mp h2
              have j1 := hit_no.mp h1
              have hi := j1 i i1 i2
              rw [xor_bit, i3] at hi
              have hv : v = i := by simpa using hi
              have hu : q.1.testBit u = false := by
                cases hqu : q.1.testBit u
                · rfl
                · have := j1 u hp.2.2.2.1 hqu
                  rw [xor_bit, hp.2.2.2.2.1] at this
                  have hz : v = u := by simpa using this
                  exact absurd hz.symm hp.2.2.2.2.2
              subst hv; rw [hu, i2]; simp only [if_true, Bool.false_eq_true, if_false, Bool.not_false, Bool.and_self]; omega
      omega
theorem strong {a b : Nat} (h : Gr c gs a b) (ha : a < 64) (h0 : a.testBit 0 = true) : b < 64 ∧ b.testBit 0 = true ∧ V c 64 b ≤ V c 64 a + pot gs b - pot gs a := by
  induction h with
  | refl => exact ⟨ha, h0, by omega⟩
  | step v u _ h1 h2 h3 h4 h5 h6 ih =>
    rename_i k' _
    obtain ⟨i1, i2, i3⟩ := ih
    have hb : (k' ||| 2 ^ v) < 64 := or_lt i1 (pow_lt h1)
    have hz : (k' ||| 2 ^ v).testBit 0 = true := by rw [or_bit, i2]; rfl
    refine ⟨hb, hz, ?_⟩
    have hne : (k' ||| 2 ^ v) ≠ 1 := by
      intro e
      have := or_bit k' v v
      rw [e] at this
      have h9 : ∀ i < 6, i ≠ 0 → Nat.testBit 1 i = false := by decide
      rw [h9 v h1 h2] at this
      simp at this
    rw [V_eq c _ hb hz hne]
    have hx : (k' ||| 2 ^ v) ^^^ 2 ^ v = k' := by
      apply m_ext (Nat.xor_lt_two_pow (n := 6) hb (pow_lt h1)) i1
      intro i hi
      rw [xor_bit, or_bit]
      by_cases e : v = i
      · subst e; simp [h3]
      · simp [e]
    have := minOf_le (l := (prs (k' ||| 2 ^ v)).map fun p => V c 64 ((k' ||| 2 ^ v) ^^^ 2 ^ p.1) + c p.1 p.2) (x := V c 64 k' + c v u) (List.mem_map.mpr ⟨(v, u), (prs_mem hz).mpr ⟨h1, h2, by rw [or_bit]; simp, h4, by rw [or_bit, h5]; rfl, fun z => by subst z; rw [h5] at h3; cases h3⟩, by simp only [hx]⟩)
    omega
end
end Mine.E2
end
section
open PySem PySem.W PyProof.Rows
namespace Mine.E2
structure S2 where
  tab : List (Nat × (Nat → Int))
  own : Nat → Nat
  lead : List (Nat × Nat)
  gains : Gs
noncomputable def outs (m : Nat) : List Nat := (List.range 6).filter fun i => !m.testBit i
noncomputable def tabF (tab : List (Nat × (Nat → Int))) (m : Nat) : Nat → Int := (aget tab m).getD fun u0 => 0
noncomputable def lessR (pr : Nat → Int) (g : Nat → Int) (x y : Nat) : Bool := decide (g x < g y) || (decide (g x = g y) && decide (pr x < pr y))
noncomputable def bestU (less : Nat → Nat → Bool) (l : List Nat) : Nat := l.foldl (fun b x => if less x b then x else b) (l.headD 0)
noncomputable def nx (own : Nat → Nat) (lead : List (Nat × Nat)) (X : Nat) : Nat := own ((aget lead X).getD 0)
noncomputable def chase (own : Nat → Nat) (lead : List (Nat × Nat)) (m : Nat) : Nat → Nat → List Nat
  | 0, _ => []
  | n + 1, X => if (aget lead (nx own lead X)).isSome && nx own lead X != m then nx own lead X :: chase own lead m n (nx own lead X) else []
noncomputable def lst (X : Nat) : List Nat → Nat
  | [] => X
  | Y :: r => lst Y r
noncomputable def s1 (pr : Nat → Int) (s : S2) (m : Nat) : S2 :=
  let g := tabF s.tab m
  let u := bestU (lessR pr g) (outs m)
  ⟨aset s.tab m fun x => g x - g u, s.own, aset s.lead m u, s.gains ++ [(m, g u)]⟩
noncomputable def ring (pr : Nat → Int) (s : S2) (m : Nat) : List Nat := m :: chase s.own (s1 pr s m).lead m 1000 m
noncomputable def fin (pr : Nat → Int) (s : S2) (m : Nat) : Nat := nx s.own (s1 pr s m).lead (lst m (chase s.own (s1 pr s m).lead m 1000 m))
noncomputable def whole (own : Nat → Nat) (rg : List Nat) : Nat := mkM fun i => rg.contains (own i)
noncomputable def s2 (s : S2) (rg : List Nat) : S2 :=
  ⟨aset s.tab (whole s.own rg) fun u => minOf (rg.map fun p => tabF s.tab p u), fun i => if rg.contains (s.own i) then whole s.own rg else s.own i, s.lead, s.gains⟩
noncomputable def take (pr : Nat → Int) (s : S2) (m : Nat) : S2 × List Nat :=
  if fin pr s m = m then (s2 (s1 pr s m) (ring pr s m), [whole s.own (ring pr s m)]) else (s1 pr s m, [])
theorem bestU_go {less : Nat → Nat → Bool} {S : Nat → Prop} (tr : ∀ x y z, S x → S y → S z → less x y = false → less z y = true → less x z = false) (irr : ∀ x, S x → less x x = false) (asy : ∀ x y, S x → S y → less x y = true → less y x = false) :
    ∀ (l : List Nat) (b : Nat) (done : List Nat), S b → b ∈ done → (∀ x ∈ l, S x) → (∀ x ∈ done, S x ∧ less x b = false) →
      (l.foldl (fun b x => if less x b then x else b) b) ∈ done ++ l ∧ ∀ x ∈ done ++ l, less x (l.foldl (fun b x => if less x b then x else b) b) = false
  | [], b, done, _, hb, _, hd => ⟨by simpa using hb, fun x hx => by simp at hx; exact (hd x hx).2⟩
  | a :: l, b, done, sb, hb, hl, hd => by
    rw [List.foldl_cons]
    have ha := hl a (.head _)
    by_cases h : less a b = true
    · rw [if_pos h]
      have := bestU_go tr irr asy l a (done ++ [a]) ha (by simp) (fun x m => hl x (.tail _ m)) (by
        intro x hx
        rw [List.mem_append, List.mem_singleton] at hx
        rcases hx with hx | rfl
        · exact ⟨(hd x hx).1, tr x b a (hd x hx).1 sb ha (hd x hx).2 h⟩
        · exact ⟨ha, irr _ ha⟩)
      simpa using this
    · rw [if_neg h]
      have := bestU_go tr irr asy l b (done ++ [a]) sb (by simp [hb]) (fun x m => hl x (.tail _ m)) (by
        intro x hx
        rw [List.mem_append, List.mem_singleton] at hx
        rcases hx with hx | rfl
        · exact hd x hx
        · exact ⟨ha, by simpa using h⟩)
      simpa using this
theorem bestU_ok {pr g : Nat → Int} {l : List Nat} (h : l ≠ []) : bestU (lessR pr g) l ∈ l ∧ ∀ x ∈ l, g (bestU (lessR pr g) l) ≤ g x ∧ (g x = g (bestU (lessR pr g) l) → pr (bestU (lessR pr g) l) ≤ pr x) := by
  cases l with
  | nil => exact absurd rfl h
  | cons a l =>
    have hf : ∀ x y, lessR pr g x y = false ↔ g y ≤ g x ∧ (g x = g y → pr y ≤ pr x) := by
      intro x y
      unfold lessR
      rw [Bool.or_eq_false_iff, Bool.and_eq_false_iff]
      simp only [decide_eq_false_iff_not]
      constructor
      · rintro ⟨h1, h2⟩; exact ⟨by omega, fun e => by omega⟩
      · rintro ⟨h1, h2⟩
        refine ⟨by omega, ?_⟩
        by_cases e : g x = g y
        · exact .inr (by have := h2 e; omega)
        · exact .inl e
    have ht : ∀ x y, lessR pr g x y = true ↔ g x < g y ∨ (g x = g y ∧ pr x < pr y) := by
      intro x y
      simp [lessR]
    have := bestU_go (less := lessR pr g) (S := fun u0 => True) (by
      intro x y z _ _ _ h1 h2
      rw [hf] at h1 ⊢
      rw [ht] at h2
      refine ⟨by omega, fun e => ?_⟩
      have := h1.2
      omega) (by intro x _; rw [hf]; exact ⟨by omega, fun u0 => by omega⟩) (by
      intro x y _ _ h1
      rw [ht] at h1
      rw [hf]
      exact ⟨by omega, fun u0 => by omega⟩) l a [a] trivial (.head _) (fun u0 u0 => trivial) (by
      intro x hx
      rw [List.mem_singleton] at hx
      subst hx
      exact ⟨trivial, by rw [hf]; exact ⟨by omega, fun u0 => by omega⟩⟩)
    have e : bestU (lessR pr g) (a :: l) = l.foldl (fun b x => if lessR pr g x b then x else b) a := by
      unfold bestU
      rw [List.headD_cons, List.foldl_cons]
      split <;> rfl
    rw [e]
    refine ⟨by simpa using this.1, fun x hx => ?_⟩
    have h := this.2 x (by simpa using hx)
    rw [hf] at h
    exact h
theorem outs_mem {m i : Nat} : i ∈ outs m ↔ i < 6 ∧ m.testBit i = false := by simp [outs]
noncomputable def Lk (f : Nat → Nat) : Nat → List Nat → Nat → Prop
  | X, [], z => f X = z
  | X, Y :: r, z => f X = Y ∧ Lk f Y r z
theorem lk_lst {f : Nat → Nat} : ∀ {r : List Nat} {X z : Nat}, Lk f X r z → f (lst X r) = z
  | [], _, _, h => h
  | Y :: r, _, _, h => lk_lst (r := r) (X := Y) h.2
theorem len_le {l : List Nat} : ∀ {k : List Nat}, l.Nodup → (∀ x ∈ l, x ∈ k) → l.length ≤ k.length := by
  induction l with
  | nil => intros; simp
  | cons a l ih =>
    intro k hn hs
    have ⟨h1, h2⟩ := List.nodup_cons.mp hn
    have ha := hs a (.head _)
    have := ih (k := k.erase a) h2 fun x hx => by
      have hne : x ≠ a := fun e => h1 (e ▸ hx)
      exact (List.mem_erase_of_ne hne).mpr (hs x (.tail _ hx))
    rw [List.length_erase_of_mem ha] at this
    have := List.length_pos_of_mem ha
    simp only [List.length_cons]
    omega
structure IA (c : Nat → Nat → Int) (pr : Nat → Int) (s : S2) : Prop where
  o1 : ∀ i < 6, s.own i < 64
  o2 : ∀ i < 6, ∀ j < 6, (s.own i).testBit j = decide (s.own j = s.own i)
  o0 : s.own 0 = 1
  l0 : aget s.lead 1 = none
  l1 : ∀ S u, aget s.lead S = some u → u < 6 ∧ S.testBit u = false ∧ S < 64 ∧ S.testBit 0 = false ∧ ∃ i < 6, S.testBit i = true ∧ ∀ j < 6, S.testBit j = true → s.own j = s.own i
  l2 : ∀ i < 6, ∀ u, aget s.lead (s.own i) = some u → ∃ v < 6, s.own v = s.own i ∧ dual s.gains u v = c v u
  t1 : ∀ i < 6, i ≠ 0 → ∃ g, aget s.tab (s.own i) = some g ∧ ∀ x < 6, s.own x ≠ s.own i → (∀ v < 6, s.own v = s.own i → g x ≤ c v x - dual s.gains x v) ∧ ∃ v < 6, s.own v = s.own i ∧ g x = c v x - dual s.gains x v
  r0 : ∀ u < 6, ∀ v < 6, v ≠ 0 → u ≠ v → dual s.gains u v ≤ c v u
  y0 : ∀ p ∈ s.gains, 0 ≤ p.2
  gk : s.gains.map (·.1) = s.lead.map (·.1)
  gn : (s.lead.map (·.1)).Nodup
  A : ∀ i < 6, i ≠ 0 → ∀ v < 6, s.own v = s.own i → ∀ k < 64, k.testBit v = true → (∀ j < 6, s.own j = s.own i → k.testBit j = true → j = v) → Gr c s.gains k (k ||| s.own i)
  M4 : ∀ S u, aget s.lead S = some u → ∃ g, aget s.tab S = some g ∧ g u = 0 ∧ (∀ x < 6, S.testBit x = false → 0 ≤ g x) ∧ ∀ x < 6, S.testBit x = false → g x = 0 → pr u ≤ pr x
structure RK (s : S2) (rk en : Nat → Nat) : Prop where
  dn : ∀ i < 6, ∀ u, aget s.lead (s.own i) = some u → rk (s.own u) < rk (s.own i) ∧ en (s.own i) = en (s.own u)
  stop : ∀ i < 6, aget s.lead (s.own i) = none → en (s.own i) = s.own i
theorem aget_mem {α β : Type} [DecidableEq α] {l : List (α × β)} {k : α} : (∃ d, aget l k = some d) ↔ k ∈ l.map (·.1) := by
  induction l with
  | nil => simp [aget]
  | cons p l ih =>
    obtain ⟨a, b⟩ := p
    unfold aget
    by_cases h : a = k
    · subst h; simp
    · rw [if_neg h, ih]; simp [Ne.symm h]
theorem one_bit : ∀ i < 6, i ≠ 0 → Nat.testBit 1 i = false := by decide
section
variable {c : Nat → Nat → Int} {pr : Nat → Int} {s : S2}
theorem IA.ne1 (I : IA c pr s) {i : Nat} (hi : i < 6) : s.own i = 1 ↔ i = 0 := by
  constructor
  · intro h
    have := I.o2 i hi i hi
    rw [h] at this
    apply Classical.byContradiction
    intro h0
    rw [one_bit i hi h0] at this
    simp at this
  · rintro rfl; exact I.o0
theorem IA.own_eq (I : IA c pr s) {i j : Nat} (hi : i < 6) (hj : j < 6) : (s.own i).testBit j = true ↔ s.own j = s.own i := by
  rw [I.o2 i hi j hj, decide_eq_true_iff]
theorem IA.own_ne (I : IA c pr s) {i j : Nat} (hi : i < 6) (hj : j < 6) : (s.own i).testBit j = false ↔ s.own j ≠ s.own i := by
  rw [I.o2 i hi j hj, decide_eq_false_iff_not]
theorem IA.enter (I : IA c pr s) {i u k : Nat} (hi : i < 6) (h0 : i ≠ 0) (hl : aget s.lead (s.own i) = some u) (hk : k < 64) (hu : k.testBit u = true) (hd : ∀ j < 6, s.own j = s.own i → k.testBit j = false) : Gr c s.gains k (k ||| s.own i) := by
  obtain ⟨v, hv, e1, e2⟩ := I.l2 i hi u hl
  have hu6 := (I.l1 _ _ hl).1
  have hv0 : v ≠ 0 := fun e => h0 ((I.ne1 hi).mp (by rw [← e1, e, I.o0]))
  have hkv := hd v hv e1
  have g1 : Gr c s.gains k (k ||| 2 ^ v) := by
    refine .step v u .refl hv hv0 hkv hu6 hu ?_
    rw [← e2]
    apply pot_dual hv I.y0
    intro p hp q1 q2
    obtain ⟨w, hw⟩ := aget_mem.mpr (I.gk ▸ List.mem_map_of_mem (f := (·.1)) hp : p.1 ∈ s.lead.map (·.1))
    obtain ⟨u1, u2, u3, u4, j, hj, j1, j2⟩ := I.l1 _ _ hw
    rw [hit_no]
    intro x hx hpx
    exact hd x hx (by rw [j2 x hx hpx, ← j2 v hv q1, e1])
  have g2 := I.A i hi h0 v hv e1 (k ||| 2 ^ v) (or_lt hk (pow_lt hv)) (by rw [or_bit]; simp) (by
    intro j hj ej hb
    rw [or_bit, hd j hj ej] at hb
    simpa [eq_comm] using hb)
  have : k ||| 2 ^ v ||| s.own i = k ||| s.own i := by
    apply m_ext (or_lt (or_lt hk (pow_lt hv)) (I.o1 i hi)) (or_lt hk (I.o1 i hi))
    intro j hj
    rw [Nat.testBit_or, or_bit, Nat.testBit_or, I.o2 i hi j hj]
    by_cases e : v = j
    · subst e; simp [e1]
    · simp [e]
  rw [this] at g2
  exact g1.trans g2
noncomputable def Sat (s : S2) (R : List Nat) (k : Nat) : Prop := ∀ i < 6, ∀ j < 6, s.own i ∈ R → s.own i = s.own j → k.testBit i = k.testBit j
theorem IA.along (I : IA c pr s) (R : List Nat) : ∀ (r : List Nat) (X z k : Nat), Lk (nx s.own s.lead) X r z → (∀ Y ∈ X :: r, Y ∈ R ∧ ∃ i < 6, i ≠ 0 ∧ s.own i = Y ∧ (aget s.lead Y).isSome = true) → k < 64 → Sat s R k →
    (∀ i < 6, s.own i = z → k.testBit i = true) → ∃ k', Gr c s.gains k k' ∧ k' < 64 ∧ Sat s R k' ∧ (∀ i < 6, k.testBit i = true → k'.testBit i = true) ∧ (∀ i < 6, s.own i ∈ X :: r → k'.testBit i = true) ∧ ∀ i < 6, k'.testBit i = true → k.testBit i = true ∨ s.own i ∈ X :: r
  | r, X, z, k, h, hr, hk, hs, hz => by
    have main : ∀ k1, Gr c s.gains k k1 → k1 < 64 → Sat s R k1 → (∀ i < 6, k.testBit i = true → k1.testBit i = true) → (∀ i < 6, s.own i = nx s.own s.lead X → k1.testBit i = true) → (∀ i < 6, s.own i ∈ r → k1.testBit i = true) → (∀ i < 6, k1.testBit i = true → k.testBit i = true ∨ s.own i ∈ r) →
        ∃ k', Gr c s.gains k k' ∧ k' < 64 ∧ Sat s R k' ∧ (∀ i < 6, k.testBit i = true → k'.testBit i = true) ∧ (∀ i < 6, s.own i ∈ X :: r → k'.testBit i = true) ∧ ∀ i < 6, k'.testBit i = true → k.testBit i = true ∨ s.own i ∈ X :: r := by
      intro k1 g1 h1 h2 h3 h4 h5 h6
      obtain ⟨hXR, i, hi, hi0, rfl, hl⟩ := hr X (.head _)
      obtain ⟨u, hu⟩ := Option.isSome_iff_exists.mp hl
      have hu6 := (I.l1 _ _ hu).1
      have hku := h4 u hu6 (by simp [nx, hu])
      cases hb : k1.testBit i with
      | true =>
        refine ⟨k1, g1, h1, h2, h3, fun j hj hm => ?_, fun j hj hm => (h6 j hj hm).imp id (.tail _)⟩
        rcases List.mem_cons.mp hm with e | hm
        · rw [← h2 i hi j hj hXR e.symm]; exact hb
        · exact h5 j hj hm
      | false =>
        have g2 := I.enter hi hi0 hu h1 hku (fun j hj e => by rw [← h2 i hi j hj hXR e.symm]; exact hb)
        have hbit : ∀ j < 6, (k1 ||| s.own i).testBit j = (k1.testBit j || decide (s.own j = s.own i)) := fun j hj => by rw [Nat.testBit_or, I.o2 i hi j hj]
        refine ⟨k1 ||| s.own i, g1.trans g2, or_lt h1 (I.o1 i hi), ?_, ?_, ?_, ?_⟩
        · intro a ha b hb' hm e
          rw [hbit a ha, hbit b hb', h2 a ha b hb' hm e, e]
        · intro j hj hm
          rw [hbit j hj, h3 j hj hm]; rfl
        · intro j hj hm
          rw [hbit j hj]
          rcases List.mem_cons.mp hm with e | hm
          · simp [e]
          · rw [h5 j hj hm]; rfl
        · intro j hj hm
          rw [hbit j hj, Bool.or_eq_true, decide_eq_true_eq] at hm
          rcases hm with hm | hm
          · exact (h6 j hj hm).imp id (.tail _)
          · exact .inr (by rw [hm]; exact .head _)
    match r, h with
    | [], h =>
      exact main k .refl hk hs (fun u0 u0 h => h) (fun i hi e => hz i hi (by rw [e]; exact h)) (fun u0 u0 h => by cases h) fun u0 u0 h => .inl h
    | Y :: r, h =>
      obtain ⟨k1, g1, h1, h2, h3, h4, h5⟩ := IA.along I R r Y z k h.2 (fun W hW => hr W (.tail _ hW)) hk hs hz
      exact main k1 g1 h1 h2 h3 (fun i hi e => h4 i hi (by rw [e, h.1]; exact .head _)) h4 h5
end
end Mine.E2
end
section
open PySem PySem.W PyProof.Rows
namespace Mine.E2
section
variable {c : Nat → Nat → Int} {pr : Nat → Int} {s : S2}
theorem aset_new_keys {α β : Type} [DecidableEq α] {l : List (α × β)} {k : α} {d : β} (h : aget l k = none) : (aset l k d).map (·.1) = l.map (·.1) ++ [k] := by
  rw [aset_keys, if_neg]
  intro hm
  obtain ⟨d, e⟩ := aget_mem.mpr hm
  rw [h] at e; cases e
theorem IA.one (I : IA c pr s) {i0 : Nat} (hi : i0 < 6) (h0 : i0 ≠ 0) (hn : aget s.lead (s.own i0) = none) :
    IA c pr (s1 pr s (s.own i0)) ∧ ∃ u, u < 6 ∧ s.own u ≠ s.own i0 ∧ (s1 pr s (s.own i0)).lead = aset s.lead (s.own i0) u := by
  obtain ⟨g, hg, ht⟩ := I.t1 i0 hi h0
  have hm1 : s.own i0 ≠ 1 := fun e => h0 ((I.ne1 hi).mp e)
  have hb0 : (s.own i0).testBit 0 = false := by
    rw [I.own_ne hi (by decide), I.o0]; exact fun e => hm1 e.symm
  have hne : outs (s.own i0) ≠ [] := by
    intro e
    have := outs_mem (m := s.own i0) (i := 0) |>.mpr ⟨by decide, hb0⟩
    rw [e] at this; cases this
  have htab : tabF s.tab (s.own i0) = g := by unfold tabF; rw [hg]; rfl
  have ⟨hu, hbest⟩ := bestU_ok (pr := pr) (g := g) hne
  have hs : s1 pr s (s.own i0) = ⟨aset s.tab (s.own i0) fun x => g x - g (bestU (lessR pr g) (outs (s.own i0))), s.own, aset s.lead (s.own i0) (bestU (lessR pr g) (outs (s.own i0))), s.gains ++ [(s.own i0, g (bestU (lessR pr g) (outs (s.own i0))))]⟩ := by
    unfold s1; rw [htab]
  generalize bestU (lessR pr g) (outs (s.own i0)) = u at hs hu hbest
  rw [hs]
  clear hs
  have ⟨hu6, hub⟩ := outs_mem.mp hu
  have huo := (I.own_ne hi hu6).mp hub
  refine ⟨?_, u, hu6, huo, rfl⟩
  have hleast : ∀ x < 6, s.own x ≠ s.own i0 → g u ≤ g x ∧ (g x = g u → pr u ≤ pr x) := fun x hx e => hbest x (outs_mem.mpr ⟨hx, (I.own_ne hi hx).mpr e⟩)
  have v0 : ∀ v < 6, s.own v = s.own i0 → v ≠ 0 := fun v hv e z => by rw [z, I.o0] at e; exact hm1 e.symm
  have hy : 0 ≤ g u := by
    obtain ⟨v, hv, e1, e2⟩ := (ht u hu6 huo).2
    have := I.r0 u hu6 v hv (v0 v hv e1) (fun z => huo (by rw [z, e1]))
    omega
  have hdual : ∀ a < 6, ∀ b < 6, dual (s.gains ++ [(s.own i0, g u)]) a b = dual s.gains a b + if s.own b = s.own i0 ∧ s.own a ≠ s.own i0 then g u else 0 := by
    intro a ha b hb
    rw [dual_app]
    congr 1
    simp only [I.o2 i0 hi b hb, I.o2 i0 hi a ha, Bool.and_eq_true, decide_eq_true_eq, Bool.not_eq_true', decide_eq_false_iff_not]
  have hget : ∀ S, aget (aset s.lead (s.own i0) u) S = if s.own i0 = S then some u else aget s.lead S := fun S => aget_set _ _ _ _
  constructor
  · exact I.o1
  · exact I.o2
  · exact I.o0
  · show aget (aset s.lead (s.own i0) u) 1 = none
    rw [hget, if_neg hm1, I.l0]
  · intro S w hw
    have hw : aget (aset s.lead (s.own i0) u) S = some w := hw
    rw [hget] at hw
    split at hw
    · rename_i e
      cases hw
      subst e
      exact ⟨hu6, hub, I.o1 i0 hi, hb0, i0, hi, (I.own_eq hi hi).mpr rfl, fun j hj hm => (I.own_eq hi hj).mp hm⟩
    · exact I.l1 S w hw
  · intro i hi' w hw
    have hw : aget (aset s.lead (s.own i0) u) (s.own i) = some w := hw
    show ∃ v < 6, s.own v = s.own i ∧ dual (s.gains ++ [(s.own i0, g u)]) w v = c v w
    rw [hget] at hw
    split at hw
    · rename_i e
      cases hw
      obtain ⟨v, hv, e1, e2⟩ := (ht u hu6 huo).2
      refine ⟨v, hv, by rw [e1, e], ?_⟩
      rw [hdual u hu6 v hv, if_pos ⟨e1, huo⟩]; omega
    · rename_i e
      obtain ⟨v, hv, e1, e2⟩ := I.l2 i hi' w hw
      refine ⟨v, hv, e1, ?_⟩
      rw [hdual w (I.l1 _ _ hw).1 v hv, if_neg (by rw [e1]; exact fun z => e z.1.symm)]; omega
  · intro i hi' hi0
    show ∃ g', aget (aset s.tab (s.own i0) fun x => g x - g u) (s.own i) = some g' ∧ ∀ x < 6, s.own x ≠ s.own i → (∀ v < 6, s.own v = s.own i → g' x ≤ c v x - dual (s.gains ++ [(s.own i0, g u)]) x v) ∧ ∃ v < 6, s.own v = s.own i ∧ g' x = c v x - dual (s.gains ++ [(s.own i0, g u)]) x v
    rw [aget_set]
    split
    · rename_i e
      refine ⟨_, rfl, fun x hx ex => ?_⟩
      rw [← e] at ex ⊢
      obtain ⟨h1, v, hv, e1, e2⟩ := ht x hx ex
      refine ⟨fun v hv e1 => ?_, v, hv, e1, ?_⟩
      · have := h1 v hv e1
        rw [hdual x hx v hv, if_pos ⟨e1, ex⟩]; omega
      · rw [hdual x hx v hv, if_pos ⟨e1, ex⟩]; omega
    · rename_i e
      obtain ⟨g', h1, h2⟩ := I.t1 i hi' hi0
      refine ⟨g', h1, fun x hx ex => ?_⟩
      obtain ⟨h3, v, hv, e1, e2⟩ := h2 x hx ex
      refine ⟨fun v hv e1 => ?_, v, hv, e1, ?_⟩
      · rw [hdual x hx v hv, if_neg (by rw [e1]; exact fun z => e z.1.symm)]
        have := h3 v hv e1; omega
      · rw [hdual x hx v hv, if_neg (by rw [e1]; exact fun z => e z.1.symm)]; omega
  · intro a ha b hb hb0 hab
    show dual (s.gains ++ [(s.own i0, g u)]) a b ≤ _
    rw [hdual a ha b hb]
    split
    · rename_i h
      have h1 := (ht a ha h.2).1 b hb h.1
      have h2 := (hleast a ha h.2).1
      omega
    · have := I.r0 a ha b hb hb0 hab; omega
  · intro p hp
    have hp : p ∈ s.gains ++ [(s.own i0, g u)] := hp
    rw [List.mem_append, List.mem_singleton] at hp
    rcases hp with hp | rfl
    · exact I.y0 p hp
    · exact hy
  · show (s.gains ++ [(s.own i0, g u)]).map (·.1) = (aset s.lead (s.own i0) u).map (·.1)
    rw [aset_new_keys hn, List.map_append, I.gk]; rfl
  · show ((aset s.lead (s.own i0) u).map (·.1)).Nodup
    rw [aset_new_keys hn, List.nodup_append]
    refine ⟨I.gn, by simp, ?_⟩
    intro a ha b hb
    rw [List.mem_singleton] at hb
    rintro rfl
    subst hb
    obtain ⟨d, e⟩ := aget_mem.mpr ha
    rw [hn] at e; cases e
  · intro i hi' hi0 v hv e k hk hkv hd
    exact (I.A i hi' hi0 v hv e k hk hkv hd).mono _ hy
  · intro S w hw
    have hw : aget (aset s.lead (s.own i0) u) S = some w := hw
    show ∃ g', aget (aset s.tab (s.own i0) fun x => g x - g u) S = some g' ∧ g' w = 0 ∧ (∀ x < 6, S.testBit x = false → 0 ≤ g' x) ∧ ∀ x < 6, S.testBit x = false → g' x = 0 → pr w ≤ pr x
    rw [hget] at hw
    rw [aget_set]
    split at hw
    · rename_i e
      cases hw
      rw [if_pos e]
      subst e
      refine ⟨_, rfl, by omega, fun x hx hb => ?_, fun x hx hb hz => ?_⟩
      · have := (hleast x hx ((I.own_ne hi hx).mp hb)).1; omega
      · exact (hleast x hx ((I.own_ne hi hx).mp hb)).2 (by omega)
    · rename_i e
      rw [if_neg e]
      exact I.M4 S w hw
theorem IA.two (I : IA c pr s) {rg : List Nat} {X : Nat} {r : List Nat} (hrg : rg = X :: r) (hk : Lk (nx s.own s.lead) X r X) (hr : ∀ Y ∈ rg, ∃ i < 6, i ≠ 0 ∧ s.own i = Y ∧ (aget s.lead Y).isSome = true) : IA c pr (s2 s rg) ∧ aget s.lead (whole s.own rg) = none ∧ (∀ i < 6, s.own i ≠ whole s.own rg) := by
  have hne : rg ≠ [] := by rw [hrg]; simp
  have hWlt : whole s.own rg < 64 := mkM_lt _
  have hWb : ∀ j < 6, (whole s.own rg).testBit j = rg.contains (s.own j) := fun j hj => mkM_bit _ j hj
  have hX : X ∈ rg := by rw [hrg]; exact .head _
  obtain ⟨i1, hi1, hi10, hXi, hXl⟩ := hr X hX
  obtain ⟨Y, hY, i2, hi2, hYi, hXY⟩ : ∃ Y ∈ rg, ∃ i2 < 6, s.own i2 = Y ∧ X ≠ Y := by
    obtain ⟨u, hu⟩ := Option.isSome_iff_exists.mp hXl
    obtain ⟨hu6, hub, u1⟩ := I.l1 _ _ hu
    rw [← hXi] at hub
    have hne2 := (I.own_ne hi1 hu6).mp hub
    cases r with
    | nil =>
      have e : nx s.own s.lead X = X := hk
      simp only [nx, hu, Option.getD_some] at e
      exact absurd (e.trans hXi.symm) hne2
    | cons Y r =>
      have e := hk.1
      simp only [nx, hu, Option.getD_some] at e
      exact ⟨Y, by rw [hrg]; exact .tail _ (.head _), u, hu6, e, fun z => hne2 (by rw [e, ← z, hXi])⟩
  have hWl : aget s.lead (whole s.own rg) = none := by
    cases hw : aget s.lead (whole s.own rg) with
    | none => rfl
    | some w =>
      obtain ⟨u1, u2, u3, u4, i, hi, h1, h2⟩ := I.l1 _ _ hw
      have a := h2 i1 hi1 (by rw [hWb i1 hi1, hXi]; exact List.contains_iff_mem.mpr hX)
      have b := h2 i2 hi2 (by rw [hWb i2 hi2, hYi]; exact List.contains_iff_mem.mpr hY)
      exact absurd (hXi.symm.trans (a.trans (b.symm.trans hYi))) hXY
  have hWo : ∀ i < 6, s.own i ≠ whole s.own rg := by
    intro i hi e
    have a := (I.own_eq hi hi1).mp (by rw [e, hWb i1 hi1, hXi]; exact List.contains_iff_mem.mpr hX)
    have b := (I.own_eq hi hi2).mp (by rw [e, hWb i2 hi2, hYi]; exact List.contains_iff_mem.mpr hY)
    exact absurd (hXi.symm.trans (a.trans (b.symm.trans hYi))) hXY
  refine ⟨?_, hWl, hWo⟩
  have h0r : s.own 0 ∉ rg := by
    intro h
    obtain ⟨i, hi, hi0, e, u1⟩ := hr _ h
    exact hi0 ((I.ne1 hi).mp (by rw [e, I.o0]))
  have own' : ∀ i, (s2 s rg).own i = if s.own i ∈ rg then whole s.own rg else s.own i := fun i => by
    show (if rg.contains (s.own i) then _ else _) = _
    by_cases h : s.own i ∈ rg
    · rw [if_pos h, if_pos (List.contains_iff_mem.mpr h)]
    · rw [if_neg h, if_neg (fun z => h (List.contains_iff_mem.mp z))]
  have ownW : ∀ i < 6, (s2 s rg).own i = whole s.own rg ↔ s.own i ∈ rg := fun i hi => by
    rw [own']
    by_cases h : s.own i ∈ rg
    · simp [h]
    · simp [h, hWo i hi]
  have ownN : ∀ i, s.own i ∉ rg → (s2 s rg).own i = s.own i := fun i h => by rw [own', if_neg h]
  have ownE : ∀ i < 6, ∀ j < 6, s.own i ∉ rg → ((s2 s rg).own j = s.own i ↔ s.own j = s.own i) := fun i hi j hj h => by
    rw [own']
    by_cases hj' : s.own j ∈ rg
    · rw [if_pos hj']
      exact ⟨fun e => absurd e.symm (hWo i hi), fun e => absurd (e ▸ hj') h⟩
    · rw [if_neg hj']
  have ownS : ∀ i j, s.own i = s.own j → (s2 s rg).own i = (s2 s rg).own j := fun i j e => by rw [own', own', e]
  have gw : ∀ Y ∈ rg, ∃ i < 6, i ≠ 0 ∧ s.own i = Y ∧ ∃ g, aget s.tab Y = some g ∧ tabF s.tab Y = g ∧ ∀ x < 6, s.own x ≠ Y → (∀ v < 6, s.own v = Y → g x ≤ c v x - dual s.gains x v) ∧ ∃ v < 6, s.own v = Y ∧ g x = c v x - dual s.gains x v := by
    intro Y hY
    obtain ⟨i, hi, hi0, rfl, u1⟩ := hr Y hY
    obtain ⟨g, h1, h2⟩ := I.t1 i hi hi0
    exact ⟨i, hi, hi0, rfl, g, h1, by unfold tabF; rw [h1]; rfl, h2⟩
  constructor
  · intro i hi
    rw [own']; split
    · exact hWlt
    · exact I.o1 i hi
  · intro i hi j hj
    rw [own' i]
    split
    · rename_i h
      rw [hWb j hj]
      by_cases hj' : s.own j ∈ rg
      · rw [List.contains_iff_mem.mpr hj', eq_comm, decide_eq_true_iff, ownW j hj]; exact hj'
      · have : rg.contains (s.own j) = false := by
          rw [← Bool.not_eq_true, List.contains_iff_mem]; exact hj'
        rw [this, eq_comm, decide_eq_false_iff_not, ownW j hj]; exact hj'
    · rename_i h
      rw [I.o2 i hi j hj]
      exact decide_eq_decide.mpr (ownE i hi j hj h).symm
  · rw [ownN 0 h0r, I.o0]
  · exact I.l0
  · intro S w hw
    obtain ⟨h1, h2, h3, h4, i, hi, h5, h6⟩ := I.l1 S w hw
    exact ⟨h1, h2, h3, h4, i, hi, h5, fun j hj hm => ownS _ _ (h6 j hj hm)⟩
  · intro i hi w hw
    have hw : aget s.lead ((s2 s rg).own i) = some w := hw
    by_cases h : s.own i ∈ rg
    · rw [(ownW i hi).mpr h, hWl] at hw; cases hw
    · rw [ownN i h] at hw ⊢
      obtain ⟨v, hv, e1, e2⟩ := I.l2 i hi w hw
      exact ⟨v, hv, (ownE i hi v hv h).mpr e1, e2⟩
  · intro i hi hi0
    show ∃ g, aget (aset s.tab (whole s.own rg) fun u => minOf (rg.map fun p => tabF s.tab p u)) ((s2 s rg).own i) = some g ∧ ∀ x < 6, (s2 s rg).own x ≠ (s2 s rg).own i → (∀ v < 6, (s2 s rg).own v = (s2 s rg).own i → g x ≤ c v x - dual s.gains x v) ∧ ∃ v < 6, (s2 s rg).own v = (s2 s rg).own i ∧ g x = c v x - dual s.gains x v
    rw [aget_set]
    by_cases h : s.own i ∈ rg
    · rw [(ownW i hi).mpr h, if_pos rfl]
      refine ⟨_, rfl, fun x hx ex => ?_⟩
      rw [Ne, ownW x hx] at ex
      refine ⟨fun v hv ev => ?_, ?_⟩
      · rw [ownW v hv] at ev
        obtain ⟨j, hj, u1, ej, g, h1, h2, h3⟩ := gw _ ev
        have hle := (h3 x hx (fun z => ex (z ▸ ev))).1 v hv rfl
        have := minOf_le (l := rg.map fun p => tabF s.tab p x) (x := g x) (List.mem_map.mpr ⟨_, ev, by rw [h2]⟩)
        show minOf (rg.map fun p => tabF s.tab p x) ≤ _
        omega
      · have := minOf_mem (l := rg.map fun p => tabF s.tab p x) (by simpa using hne)
        obtain ⟨P, hP, e⟩ := List.mem_map.mp this
        obtain ⟨j, hj, u1, ej, g, h1, h2, h3⟩ := gw _ hP
        obtain ⟨v, hv, e1, e2⟩ := (h3 x hx (fun z => ex (z ▸ hP))).2
        refine ⟨v, hv, (ownW v hv).mpr (e1 ▸ hP), ?_⟩
        show minOf (rg.map fun p => tabF s.tab p x) = _
        rw [← e, h2, e2]
    · rw [ownN i h, if_neg (fun z => hWo i hi z.symm)]
      obtain ⟨g, h1, h2⟩ := I.t1 i hi hi0
      refine ⟨g, h1, fun x hx ex => ?_⟩
      rw [Ne, ownE i hi x hx h] at ex
      obtain ⟨h3, v, hv, e1, e2⟩ := h2 x hx ex
      exact ⟨fun v hv ev => h3 v hv ((ownE i hi v hv h).mp ev), v, hv, (ownE i hi v hv h).mpr e1, e2⟩
  · exact I.r0
  · exact I.y0
  · exact I.gk
  · exact I.gn
  · intro i hi hi0 v hv ev k hk' hkv hd
    show Gr c s.gains k (k ||| (s2 s rg).own i)
    by_cases h : s.own i ∈ rg
    · rw [(ownW i hi).mpr h] at ev ⊢
      have hvr := (ownW v hv).mp ev
      have hd : ∀ j < 6, s.own j ∈ rg → k.testBit j = true → j = v := fun j hj hjr => hd j hj (by rw [(ownW i hi).mpr h, (ownW j hj).mpr hjr])
      obtain ⟨iv, hiv, hiv0, eiv, u1⟩ := hr _ hvr
      have g1 := I.A iv hiv hiv0 v hv eiv.symm k hk' hkv fun j hj e => hd j hj (by rw [e, eiv]; exact hvr)
      have hk1 := or_lt hk' (I.o1 iv hiv)
      have hb1 : ∀ j < 6, (k ||| s.own iv).testBit j = (k.testBit j || decide (s.own j = s.own v)) := fun j hj => by rw [Nat.testBit_or, I.o2 iv hiv j hj, eiv]
      have sat1 : Sat s rg (k ||| s.own iv) := by
        intro a ha b hb hm e
        rw [hb1 a ha, hb1 b hb, e]
        by_cases ea : s.own b = s.own v
        · simp [ea]
        · have na : k.testBit a = false := by
            cases hka : k.testBit a
            · rfl
            · exact absurd (by rw [← e, hd a ha hm hka]) ea
          have nb : k.testBit b = false := by
            cases hkb : k.testBit b
            · rfl
            · exact absurd (by rw [hd b hb (e ▸ hm) hkb]) ea
          rw [na, nb]
      have cut : ∀ (r : List Nat) (X z : Nat), Lk (nx s.own s.lead) X r z → s.own v ∈ X :: r → s.own v = X ∨ ∃ r1 Y r2, X :: r = r1 ++ s.own v :: r2 ∧ r1 = X :: Y ∧ Lk (nx s.own s.lead) X Y (s.own v) := by
        intro r
        induction r with
        | nil => intro X z _ hm; exact .inl (List.mem_singleton.mp hm)
        | cons Z r ih =>
          intro X z hl hm
          rcases List.mem_cons.mp hm with e | hm
          · exact .inl e
          · refine .inr ?_
            rcases ih Z z hl.2 hm with e | ⟨r1, Y, r2, e1, e2, e3⟩
            · exact ⟨[X], [], r, by rw [e]; rfl, rfl, by rw [e]; exact hl.1⟩
            · exact ⟨X :: r1, r1, r2, by rw [List.cons_append, ← e1], rfl, by rw [e2]; exact ⟨hl.1, e3⟩⟩
      have hrr : ∀ r' : List Nat, (∀ Y ∈ r', Y ∈ rg) → ∀ Y ∈ r', Y ∈ rg ∧ ∃ i < 6, i ≠ 0 ∧ s.own i = Y ∧ (aget s.lead Y).isSome = true := fun r' hs Y hY => ⟨hs Y hY, hr Y (hs Y hY)⟩
      obtain ⟨k2, g2, hk2, sat2, up2, in2, bd2⟩ : ∃ k2, Gr c s.gains k k2 ∧ k2 < 64 ∧ Sat s rg k2 ∧ (∀ j < 6, k.testBit j = true → k2.testBit j = true) ∧ (∀ j < 6, s.own j = X → k2.testBit j = true) ∧ ∀ j < 6, k2.testBit j = true → k.testBit j = true ∨ s.own j ∈ rg := by
        rcases cut r X X hk (hrg ▸ hvr) with e | ⟨r1, Y, r2, e1, e2, e3⟩
        · refine ⟨_, g1, hk1, sat1, fun j hj hm => by rw [hb1 j hj, hm]; rfl, fun j hj hm => by rw [hb1 j hj, hm, e]; simp, fun j hj hm => ?_⟩
          rw [hb1 j hj, Bool.or_eq_true, decide_eq_true_eq] at hm
          exact hm.imp id fun z => by rw [z]; exact hvr
        · have hsub : ∀ Z ∈ X :: Y, Z ∈ rg := fun Z hZ => by rw [hrg, e1, e2]; exact List.mem_append_left _ hZ
          obtain ⟨k2, g2, q1, q2, q3, q4, q5⟩ := I.along rg Y X (s.own v) _ e3 (hrr _ hsub) hk1 sat1 (fun j hj e => by rw [hb1 j hj, e]; simp)
          refine ⟨k2, g1.trans g2, q1, q2, fun j hj hm => q3 j hj (by rw [hb1 j hj, hm]; rfl), fun j hj hm => q4 j hj (by rw [hm]; exact .head _), fun j hj hm => ?_⟩
          rcases q5 j hj hm with q | q
          · rw [hb1 j hj, Bool.or_eq_true, decide_eq_true_eq] at q
            exact q.imp id fun z => by rw [z]; exact hvr
          · exact .inr (hsub _ q)
      obtain ⟨k3, g3, q1, q2, q3, q4, q5⟩ := I.along rg r X X k2 hk (hrr _ (fun Z hZ => hrg ▸ hZ)) hk2 sat2 in2
      have : k3 = k ||| whole s.own rg := by
        apply m_ext q1 (or_lt hk' hWlt)
        intro j hj
        rw [Nat.testBit_or, hWb j hj]
        by_cases hj' : s.own j ∈ rg
        · rw [List.contains_iff_mem.mpr hj', q4 j hj (hrg ▸ hj')]; simp
        · have hf : rg.contains (s.own j) = false := by
            rw [← Bool.not_eq_true, List.contains_iff_mem]; exact hj'
          rw [hf, Bool.or_false]
          cases hkj : k.testBit j with
          | true => exact q3 j hj (up2 j hj hkj)
          | false =>
            cases h3 : k3.testBit j
            · rfl
            · rcases q5 j hj h3 with q | q
              · rcases bd2 j hj q with q | q
                · rw [hkj] at q; cases q
                · exact absurd q hj'
              · exact absurd (hrg ▸ q) hj'
      rw [← this]
      exact g2.trans g3
    · rw [ownN i h] at ev ⊢
      exact I.A i hi hi0 v hv ((ownE i hi v hv h).mp ev) k hk' hkv fun j hj e => hd j hj (by rw [ownN i h]; exact (ownE i hi j hj h).mpr e)
  · intro S w hw
    obtain ⟨g, h1, h2⟩ := I.M4 S w hw
    refine ⟨g, ?_, h2⟩
    show aget (aset s.tab (whole s.own rg) _) S = some g
    rw [aget_set, if_neg, h1]
    rintro rfl
    have hw : aget s.lead (whole s.own rg) = some w := hw
    rw [hWl] at hw; cases hw
end
end Mine.E2
end
section
open PySem PySem.W PyProof.Rows
namespace Mine.E2
section
variable {c : Nat → Nat → Int} {pr : Nat → Int} {s : S2} {rk en : Nat → Nat}
theorem chase_go (K : RK s rk en) {m u : Nat} : ∀ (n X : Nat), (∃ i < 6, s.own i = X) → (∀ w, aget (aset s.lead m u) X = some w → w < 6) → (∀ i < 6, ∀ w, aget s.lead (s.own i) = some w → w < 6) → (aget (aset s.lead m u) X).isSome = true →
    (∀ Y ∈ chase s.own (aset s.lead m u) m n X, Y ≠ m ∧ (∃ i < 6, s.own i = Y) ∧ (aget s.lead Y).isSome = true ∧ en Y = en (nx s.own (aset s.lead m u) X) ∧ rk Y ≤ rk (nx s.own (aset s.lead m u) X)) ∧
    Lk (nx s.own (aset s.lead m u)) X (chase s.own (aset s.lead m u) m n X) (nx s.own (aset s.lead m u) (lst X (chase s.own (aset s.lead m u) m n X))) ∧
    ((chase s.own (aset s.lead m u) m n X).length = n ∨ aget (aset s.lead m u) (nx s.own (aset s.lead m u) (lst X (chase s.own (aset s.lead m u) m n X))) = none ∨ nx s.own (aset s.lead m u) (lst X (chase s.own (aset s.lead m u) m n X)) = m) ∧
    en (nx s.own (aset s.lead m u) (lst X (chase s.own (aset s.lead m u) m n X))) = en (nx s.own (aset s.lead m u) X) ∧
    (chase s.own (aset s.lead m u) m n X).Pairwise (fun a b => rk b < rk a) ∧ (∃ i < 6, s.own i = nx s.own (aset s.lead m u) (lst X (chase s.own (aset s.lead m u) m n X)))
  | 0, X, hX, hw, hw2, hs => by
    obtain ⟨w, e⟩ := Option.isSome_iff_exists.mp hs
    exact ⟨fun u0 h => (by cases h), rfl, .inl rfl, rfl, .nil, w, hw w e, by simp [nx, lst, chase, e]⟩
  | n + 1, X, hX, hw, hw2, hs => by
    obtain ⟨w, e⟩ := Option.isSome_iff_exists.mp hs
    have hn : nx s.own (aset s.lead m u) X = s.own w := by simp [nx, e]
    have hw6 := hw w e
    generalize hY : nx s.own (aset s.lead m u) X = Y at *
    by_cases hc : ((aget (aset s.lead m u) Y).isSome && Y != m) = true
    · have hch : chase s.own (aset s.lead m u) m (n + 1) X = Y :: chase s.own (aset s.lead m u) m n Y := by
        rw [chase, hY, if_pos hc]
      rw [hch]
      rw [Bool.and_eq_true, bne_iff_ne] at hc
      have hl : aget (aset s.lead m u) Y = aget s.lead Y := by rw [aget_set, if_neg (Ne.symm hc.2)]
      obtain ⟨v, hv⟩ := Option.isSome_iff_exists.mp hc.1
      rw [hl] at hv
      have hnY : nx s.own (aset s.lead m u) Y = s.own v := by simp [nx, hl, hv]
      have hd := K.dn w hw6 v (by rw [← hn]; exact hv)
      rw [← hn, ← hnY] at hd
      obtain ⟨a1, a2, a3, a4, a5, a6⟩ := chase_go K (m := m) (u := u) n Y ⟨w, hw6, hn.symm⟩ (fun x hx => by rw [hl, hn] at hx; exact hw2 w hw6 x hx) hw2 hc.1
      refine ⟨?_, ⟨hY, a2⟩, ?_, ?_, ?_, a6⟩
      · intro Z hZ
        rcases List.mem_cons.mp hZ with rfl | hZ
        · exact ⟨hc.2, ⟨w, hw6, hn.symm⟩, by rw [← hl]; exact hc.1, rfl, Nat.le_refl _⟩
        · obtain ⟨b1, b2, b3, b4, b5⟩ := a1 Z hZ
          exact ⟨b1, b2, b3, by rw [b4, hd.2], by omega⟩
      · rcases a3 with h | h
        · exact .inl (by rw [List.length_cons, h])
        · exact .inr h
      · show en (nx s.own (aset s.lead m u) (lst Y _)) = _
        rw [a4, hd.2]
      · rw [List.pairwise_cons]
        exact ⟨fun Z hZ => by have := (a1 Z hZ).2.2.2.2; omega, a5⟩
    · have hch : chase s.own (aset s.lead m u) m (n + 1) X = [] := by
        rw [chase, hY, if_neg hc]
      rw [hch]
      refine ⟨fun u0 h => (by cases h), rfl, .inr ?_, ?_, .nil, ⟨w, hw6, ?_⟩⟩
      · show aget (aset s.lead m u) (nx s.own (aset s.lead m u) X) = none ∨ nx s.own (aset s.lead m u) X = m
        rw [hY]
        rw [Bool.and_eq_true, bne_iff_ne] at hc
        by_cases e2 : Y = m
        · exact .inr e2
        · refine .inl ?_
          cases h : aget (aset s.lead m u) Y with
          | none => rfl
          | some _ => exact absurd ⟨by rw [h]; rfl, e2⟩ hc
      · show en (nx s.own (aset s.lead m u) X) = _
        rw [hY]
      · show s.own w = nx s.own (aset s.lead m u) X
        rw [hY, hn]
structure Ring (pr : Nat → Int) (s : S2) (m : Nat) (en : Nat → Nat) (u : Nat) : Prop where
  lead : (s1 pr s m).lead = aset s.lead m u
  u6 : u < 6
  un : s.own u ≠ m
  mem : ∀ Y ∈ chase s.own (s1 pr s m).lead m 1000 m, Y ≠ m ∧ (∃ i < 6, s.own i = Y) ∧ (aget s.lead Y).isSome = true ∧ en Y = en (s.own u)
  lk : Lk (nx s.own (s1 pr s m).lead) m (chase s.own (s1 pr s m).lead m 1000 m) (fin pr s m)
  stop : aget (s1 pr s m).lead (fin pr s m) = none ∨ fin pr s m = m
  en : en (fin pr s m) = en (s.own u)
  len : (chase s.own (s1 pr s m).lead m 1000 m).length ≤ 6
  own : ∃ i < 6, s.own i = fin pr s m
theorem ring_ok (I : IA c pr s) (K : RK s rk en) {i0 : Nat} (hi : i0 < 6) (h0 : i0 ≠ 0) (hn : aget s.lead (s.own i0) = none) : ∃ u, Ring pr s (s.own i0) en u := by
  obtain ⟨u1, u, hu6, hun, hl⟩ := I.one (pr := pr) hi h0 hn
  have hm : aget (aset s.lead (s.own i0) u) (s.own i0) = some u := by rw [aget_set, if_pos rfl]
  obtain ⟨a1, a2, a3, a4, a5, a6⟩ := chase_go K (m := s.own i0) (u := u) 1000 (s.own i0) ⟨i0, hi, rfl⟩ (fun w hw => by rw [hm] at hw; cases hw; exact hu6) (fun i hi w hw => (I.l1 _ _ hw).1) (by rw [hm]; rfl)
  have hnx : nx s.own (aset s.lead (s.own i0) u) (s.own i0) = s.own u := by simp [nx, hm]
  have hfin : fin pr s (s.own i0) = nx s.own (aset s.lead (s.own i0) u) (lst (s.own i0) (chase s.own (aset s.lead (s.own i0) u) (s.own i0) 1000 (s.own i0))) := by unfold fin; rw [hl]
  have hlen : (chase s.own (aset s.lead (s.own i0) u) (s.own i0) 1000 (s.own i0)).length ≤ 6 := by
    have := len_le (l := chase s.own (aset s.lead (s.own i0) u) (s.own i0) 1000 (s.own i0)) (k := (List.range 6).map s.own) (a5.imp fun h e => by subst e; omega) (fun x hx => by
      obtain ⟨u1, ⟨i, h6, e⟩, u2⟩ := a1 x hx
      exact List.mem_map.mpr ⟨i, List.mem_range.mpr h6, e⟩)
    simpa using this
  refine ⟨u, hl, hu6, hun, ?_, ?_, ?_, ?_, ?_, ?_⟩
  · rw [hl]
    intro Y hY
    obtain ⟨b1, b2, b3, b4, u1⟩ := a1 Y hY
    exact ⟨b1, b2, b3, by rw [b4, hnx]⟩
  · rw [hl, hfin]; exact a2
  · rw [hl, hfin]
    rcases a3 with h | h
    · omega
    · exact h
  · rw [hfin, a4, hnx]
  · rw [hl]; exact hlen
  · rw [hfin]; exact a6
structure Inv (c : Nat → Nat → Int) (pr : Nat → Int) (s : S2) (q : List Nat) : Prop where
  ia : IA c pr s
  rk : ∃ rk en, RK s rk en
  q1 : q.Nodup
  q2 : ∀ m, m ∈ q ↔ ∃ i < 6, i ≠ 0 ∧ s.own i = m ∧ aget s.lead m = none
  sz : s.gains.length + q.length + 58 ≤ ((List.range 6).map s.own).sum
theorem sum_le' {f g : Nat → Nat} : ∀ {l : List Nat}, (∀ i ∈ l, f i ≤ g i) → (l.map f).sum ≤ (l.map g).sum
  | [], _ => Nat.le_refl _
  | a :: l, h => Nat.add_le_add (h a (.head _)) (sum_le' fun i m => h i (.tail _ m))
theorem sum_lt' {f g : Nat → Nat} {j : Nat} (hs : f j < g j) : ∀ {l : List Nat}, (∀ i ∈ l, f i ≤ g i) → j ∈ l → (l.map f).sum < (l.map g).sum
  | a :: l, h, m => by
    rcases List.mem_cons.mp m with e | m
    · exact Nat.add_lt_add_of_lt_of_le (e ▸ hs) (sum_le' fun i m => h i (.tail _ m))
    · exact Nat.add_lt_add_of_le_of_lt (h a (.head _)) (sum_lt' hs (fun i m => h i (.tail _ m)) m)
theorem sum_lt {f g : Nat → Nat} (h : ∀ i < 6, f i ≤ g i) {j : Nat} (hj : j < 6) (hs : f j < g j) : ((List.range 6).map f).sum + 1 ≤ ((List.range 6).map g).sum := sum_lt' hs (fun i m => h i (List.mem_range.mp m)) (List.mem_range.mpr hj)
theorem aset_new_len {α β : Type} [DecidableEq α] {l : List (α × β)} {k : α} {d : β} (h : aget l k = none) : (aset l k d).length = l.length + 1 := by
  have := congrArg List.length (aset_new_keys (d := d) h)
  simpa using this
theorem Inv.step {m : Nat} {q : List Nat} (J : Inv c pr s (m :: q)) : Inv c pr (take pr s m).1 (q ++ (take pr s m).2) := by
  obtain ⟨i0, hi, h0, rfl, hn⟩ := (J.q2 m).mp (.head _)
  obtain ⟨rk, en, K⟩ := J.rk
  have I := J.ia
  have ⟨I1, _⟩ := I.one (pr := pr) hi h0 hn
  obtain ⟨u, R⟩ := ring_ok (pr := pr) I K hi h0 hn
  have ⟨qn, qd⟩ := List.nodup_cons.mp J.q1
  have hl := R.lead
  have hget : ∀ S, aget (s1 pr s (s.own i0)).lead S = if s.own i0 = S then some u else aget s.lead S := fun S => by rw [hl, aget_set]
  have ho : (s1 pr s (s.own i0)).own = s.own := rfl
  have hgl : (s1 pr s (s.own i0)).gains.length = s.gains.length + 1 := by simp [s1]
  have sz := J.sz
  rw [List.length_cons] at sz
  unfold take
  by_cases hf : fin pr s (s.own i0) = s.own i0
  · rw [if_pos hf]
    have hlk := R.lk
    rw [hf] at hlk
    have hr : ∀ Y ∈ ring pr s (s.own i0), ∃ i < 6, i ≠ 0 ∧ (s1 pr s (s.own i0)).own i = Y ∧ (aget (s1 pr s (s.own i0)).lead Y).isSome = true := by
      intro Y hY
      rcases List.mem_cons.mp hY with rfl | hY
      · exact ⟨i0, hi, h0, rfl, by rw [hget, if_pos rfl]; rfl⟩
      · obtain ⟨b1, ⟨i, h6, rfl⟩, b3, u1⟩ := R.mem Y hY
        refine ⟨i, h6, fun e => ?_, rfl, by rw [hget, if_neg (Ne.symm b1)]; exact b3⟩
        rw [e, I.o0, I.l0] at b3; cases b3
    have ⟨I2, hWl, hWo⟩ := I1.two (rg := ring pr s (s.own i0)) rfl hlk hr
    have hmr : s.own i0 ∈ ring pr s (s.own i0) := .head _
    have hen : ∀ Y ∈ ring pr s (s.own i0), en Y = s.own i0 := by
      have e1 := R.en
      rw [hf, K.stop i0 hi hn] at e1
      intro Y hY
      rcases List.mem_cons.mp hY with rfl | hY
      · exact K.stop i0 hi hn
      · rw [(R.mem Y hY).2.2.2, ← e1]
    generalize hrg : ring pr s (s.own i0) = rg at *
    have own' : ∀ i, (s2 (s1 pr s (s.own i0)) rg).own i = if s.own i ∈ rg then whole s.own rg else s.own i := fun i => by
      show (if rg.contains (s.own i) then whole s.own rg else s.own i) = _
      by_cases h : s.own i ∈ rg
      · rw [if_pos h, if_pos (List.contains_iff_mem.mpr h)]
      · rw [if_neg h, if_neg (fun z => h (List.contains_iff_mem.mp z))]
    have hWl : aget (s1 pr s (s.own i0)).lead (whole s.own rg) = none := hWl
    have hWo : ∀ i < 6, s.own i ≠ whole s.own rg := hWo
    generalize hW : whole s.own rg = W at *
    have leadE : ∀ S, aget (s2 (s1 pr s (s.own i0)) rg).lead S = if s.own i0 = S then some u else aget s.lead S := hget
    have hsz : ∀ i < 6, s.own i ≤ (s2 (s1 pr s (s.own i0)) rg).own i := by
      intro i h6
      rw [own']
      split
      · rename_i h
        rw [← hW]
        apply le_of_bits
        intro j hj
        have j6 := tb_lt (I.o1 i h6) hj
        show (mkM fun j => rg.contains (s.own j)).testBit j = true
        rw [mkM_bit _ j j6, (I.own_eq h6 j6).mp hj]
        exact List.contains_iff_mem.mpr h
      · exact Nat.le_refl _
    refine ⟨I2, ⟨fun X => if X = W then 0 else rk X + 1, fun X => if X = W then W else if en X = s.own i0 then W else en X, ?_, ?_⟩, ?_, ?_, ?_⟩
    · intro i h6 w hw
      rw [leadE] at hw
      by_cases h : s.own i ∈ rg
      · rw [own', if_pos h, if_neg (hWo i0 hi)] at hw
        rw [hget, if_neg (hWo i0 hi)] at hWl
        rw [hWl] at hw; cases hw
      · rw [own', if_neg h] at hw
        rw [if_neg (fun e : s.own i0 = s.own i => h (e ▸ hmr))] at hw
        have hd := K.dn i h6 w hw
        have hw6 := (I.l1 _ _ hw).1
        rw [own' i, if_neg h, own' w]
        simp only [if_neg (hWo i h6)]
        by_cases h2 : s.own w ∈ rg
        · rw [if_pos h2, if_pos rfl, if_pos rfl, hd.2, hen _ h2, if_pos rfl]
          exact ⟨by omega, rfl⟩
        · rw [if_neg h2, if_neg (hWo w hw6), if_neg (hWo w hw6), hd.2]
          exact ⟨by omega, rfl⟩
    · intro i h6 hw
      rw [leadE] at hw
      by_cases h : s.own i ∈ rg
      · rw [own', if_pos h]
        simp only [if_true]
      · rw [own', if_neg h] at hw ⊢
        have hne : s.own i0 ≠ s.own i := fun e => h (e ▸ hmr)
        rw [if_neg hne] at hw
        simp only [if_neg (hWo i h6)]
        rw [K.stop i h6 hw, if_neg (Ne.symm hne)]
    · rw [List.nodup_append]
      refine ⟨qd, by simp, ?_⟩
      intro a ha b hb
      rw [List.mem_singleton] at hb
      subst hb
      obtain ⟨i, h6, u1, e, u2⟩ := (J.q2 a).mp (.tail _ ha)
      rintro rfl
      exact hWo i h6 e
    · intro x
      show x ∈ q ++ [W] ↔ ∃ i < 6, i ≠ 0 ∧ (s2 (s1 pr s (s.own i0)) rg).own i = x ∧ aget (s2 (s1 pr s (s.own i0)) rg).lead x = none
      rw [List.mem_append, List.mem_singleton]
      constructor
      · rintro (hx | rfl)
        · obtain ⟨i, h6, hi0, e, hx2⟩ := (J.q2 x).mp (.tail _ hx)
          subst e
          have hne : s.own i0 ≠ s.own i := fun e => qn (e ▸ hx)
          have h : s.own i ∉ rg := by
            rw [← hrg]
            intro h
            rcases List.mem_cons.mp h with h | h
            · exact hne h.symm
            · have := (R.mem _ h).2.2.1
              rw [hx2] at this; cases this
          exact ⟨i, h6, hi0, by rw [own', if_neg h], by rw [leadE, if_neg hne, hx2]⟩
        · exact ⟨i0, hi, h0, by rw [own', if_pos hmr], hWl⟩
      · rintro ⟨i, h6, hi0, rfl, hx⟩
        by_cases h : s.own i ∈ rg
        · exact .inr (by rw [own', if_pos h])
        · rw [own', if_neg h] at hx ⊢
          have hne : s.own i0 ≠ s.own i := fun e => h (e ▸ hmr)
          rw [leadE, if_neg hne] at hx
          have := (J.q2 (s.own i)).mpr ⟨i, h6, hi0, rfl, hx⟩
          rcases List.mem_cons.mp this with e | e
          · exact absurd e.symm hne
          · exact .inl e
    · show (s1 pr s (s.own i0)).gains.length + (q ++ [W]).length + 58 ≤ ((List.range 6).map (s2 (s1 pr s (s.own i0)) rg).own).sum
      have hlt : s.own i0 < (s2 (s1 pr s (s.own i0)) rg).own i0 := by
        have h1 := hsz i0 hi
        have h2 : s.own i0 ≠ (s2 (s1 pr s (s.own i0)) rg).own i0 := by
          rw [own', if_pos hmr]; exact hWo i0 hi
        omega
      have := sum_lt hsz hi hlt
      rw [hgl, List.length_append, List.length_singleton]
      omega
  · rw [if_neg hf]
    have hst := R.stop.resolve_right hf
    have hne : en (s.own u) ≠ s.own i0 := by
      rw [← R.en]
      obtain ⟨i, h6, e⟩ := R.own
      rw [hget] at hst
      rw [if_neg (Ne.symm hf), ← e] at hst
      rw [← e, K.stop i h6 hst, e]
      exact hf
    rw [List.append_nil]
    refine ⟨I1, ⟨fun X => if en X = s.own i0 then rk X + rk (s.own u) + 1 else rk X, fun X => if en X = s.own i0 then en (s.own u) else en X, ?_, ?_⟩, qd, ?_, ?_⟩
    · intro i h6 w hw
      rw [hget] at hw
      rw [ho] at hw ⊢
      by_cases e : s.own i0 = s.own i
      · rw [if_pos e] at hw
        cases hw
        rw [← e, K.stop i0 hi hn, if_pos rfl, if_neg hne, if_pos rfl, if_neg hne]
        exact ⟨by omega, rfl⟩
      · rw [if_neg e] at hw
        have hd := K.dn i h6 w hw
        rw [hd.2]
        split
        · exact ⟨by omega, rfl⟩
        · exact ⟨hd.1, rfl⟩
    · intro i h6 hw
      rw [hget, ho] at hw
      split at hw
      · cases hw
      · rename_i e
        rw [ho]
        rw [K.stop i h6 hw, if_neg (Ne.symm e)]
    · intro x
      constructor
      · intro hx
        obtain ⟨i, h6, hi0, e, hx2⟩ := (J.q2 x).mp (.tail _ hx)
        exact ⟨i, h6, hi0, e, by rw [hget, if_neg (fun z : s.own i0 = x => qn (z ▸ hx)), hx2]⟩
      · rintro ⟨i, h6, hi0, e, hx2⟩
        rw [hget] at hx2
        split at hx2
        · cases hx2
        · rename_i hz
          have := (J.q2 x).mpr ⟨i, h6, hi0, e, hx2⟩
          rcases List.mem_cons.mp this with e | e
          · exact absurd e.symm hz
          · exact e
    · rw [hgl]
      show _ ≤ ((List.range 6).map s.own).sum
      omega
theorem Inv.all (J : Inv c pr s []) : (s.gains.map (·.2)).sum = V c 64 63 := by
  have I := J.ia
  obtain ⟨rk, en, K⟩ := J.rk
  have taken : ∀ i < 6, i ≠ 0 → ∃ u, aget s.lead (s.own i) = some u := by
    intro i hi h0
    cases h : aget s.lead (s.own i) with
    | some u => exact ⟨u, rfl⟩
    | none => have := (J.q2 (s.own i)).mpr ⟨i, hi, h0, rfl, h⟩; cases this
  have key : ∀ p ∈ s.gains, p.1.testBit 0 = false ∧ ∃ i < 6, p.1.testBit i = true := by
    intro p hp
    obtain ⟨w, hw⟩ := aget_mem.mpr (I.gk ▸ List.mem_map_of_mem (f := (·.1)) hp : p.1 ∈ s.lead.map (·.1))
    obtain ⟨u1, u2, u3, h4, i, hi, h5, u4⟩ := I.l1 _ _ hw
    exact ⟨h4, i, hi, h5⟩
  let R := (List.range 6).map s.own
  have hR : ∀ i < 6, s.own i ∈ R := fun i hi => List.mem_map_of_mem (List.mem_range.mpr hi)
  have reach : ∀ n i, i < 6 → rk (s.own i) < n → ∀ k, Gr c s.gains 1 k → k < 64 → Sat s R k → k.testBit 0 = true → ∃ k', Gr c s.gains 1 k' ∧ k' < 64 ∧ Sat s R k' ∧ (∀ j < 6, k.testBit j = true → k'.testBit j = true) ∧ k'.testBit i = true := by
    intro n
    induction n with
    | zero => intro i _ h; omega
    | succ n ih =>
      intro i hi hr k g1 hk hs hk0
      by_cases h0 : i = 0
      · subst h0; exact ⟨k, g1, hk, hs, fun u0 u0 h => h, hk0⟩
      · obtain ⟨u, hu⟩ := taken i hi h0
        have hd := (K.dn i hi u hu).1
        have hu6 := (I.l1 _ _ hu).1
        obtain ⟨k1, g2, h1, h2, h3, h4⟩ := ih u hu6 (by omega) k g1 hk hs hk0
        cases hb : k1.testBit i with
        | true => exact ⟨k1, g2, h1, h2, h3, hb⟩
        | false =>
          have g3 := I.enter hi h0 hu h1 h4 fun j hj e => by rw [← h2 i hi j hj (hR i hi) e.symm]; exact hb
          have hbit : ∀ j < 6, (k1 ||| s.own i).testBit j = (k1.testBit j || decide (s.own j = s.own i)) := fun j hj => by rw [Nat.testBit_or, I.o2 i hi j hj]
          refine ⟨k1 ||| s.own i, g2.trans g3, or_lt h1 (I.o1 i hi), fun a ha b hb hm e => by rw [hbit a ha, hbit b hb, h2 a ha b hb hm e, e], fun j hj hm => by rw [hbit j hj, h3 j hj hm]; rfl, by rw [hbit i hi]; simp⟩
  have sat1 : Sat s R 1 := by
    intro a ha b hb _ e
    by_cases h : a = 0
    · subst h
      rw [(I.ne1 hb).mp (by rw [← e, I.o0])]
    · by_cases h' : b = 0
      · subst h'
        exact absurd ((I.ne1 ha).mp (by rw [e, I.o0])) h
      · rw [one_bit a ha h, one_bit b hb h']
  have allr : ∀ l : List Nat, (∀ i ∈ l, i < 6) → ∃ k, Gr c s.gains 1 k ∧ k < 64 ∧ Sat s R k ∧ k.testBit 0 = true ∧ ∀ i ∈ l, k.testBit i = true := by
    intro l
    induction l with
    | nil => intro _; exact ⟨1, .refl, by decide, sat1, by decide, fun u0 h => (by cases h)⟩
    | cons a l ih =>
      intro h
      obtain ⟨k, g1, h1, h2, h3, h4⟩ := ih fun i m => h i (.tail _ m)
      obtain ⟨k', g2, q1, q2, q3, q4⟩ := reach _ a (h a (.head _)) (Nat.lt_succ_self _) k g1 h1 h2 h3
      refine ⟨k', g2, q1, q2, q3 0 (by decide) h3, fun i hi => ?_⟩
      rcases List.mem_cons.mp hi with rfl | hi
      · exact q4
      · exact q3 i (h i (.tail _ hi)) (h4 i hi)
  obtain ⟨k, g, h1, u1, u2, h4⟩ := allr (List.range 6) fun i h => List.mem_range.mp h
  have hk : k = 63 := by
    apply m_ext h1 (by decide)
    intro i hi
    rw [h4 i (List.mem_range.mpr hi)]
    have : ∀ i < 6, true = Nat.testBit 63 i := by decide
    exact this i hi
  subst hk
  have up := (strong g (by decide) (by decide)).2.2
  have lo := weak I.y0 I.r0 (fun p hp => (key p hp).1) 64 63 (by decide) (by decide) (by decide)
  have lo1 := weak I.y0 I.r0 (fun p hp => (key p hp).1) 2 1 (by decide) (by decide) (by decide)
  have v1 : V c 64 1 = 0 := rfl
  have p1 : 0 ≤ pot s.gains 1 := by
    have : ∀ gs : Gs, (∀ p ∈ gs, 0 ≤ p.2) → 0 ≤ pot gs 1 := by
      intro gs
      induction gs with
      | nil => intro _; exact Int.le_refl _
      | cons p gs ih =>
        intro h
        have h2 := ih (fun q m => h q (.tail _ m))
        have hp := h p (.head _)
        rw [pot_cons]
        split <;> omega
    exact this _ I.y0
  have p63 : pot s.gains 63 = (s.gains.map (·.2)).sum := by
    unfold pot
    congr 1
    apply List.map_congr_left
    intro p hp
    obtain ⟨u1, i, hi, h5⟩ := key p hp
    rw [if_pos]
    have : ∀ i < 6, Nat.testBit 63 i = true := by decide
    exact hit_iff.mpr ⟨i, hi, h5, this i hi⟩
  omega
theorem Inv.lead_of {q : List Nat} (J : Inv c pr s q) {p : Nat × Int} (hp : p ∈ s.gains) : ∃ u, aget s.lead p.1 = some u ∧ u < 6 ∧ p.1.testBit u = false ∧ p.1 < 64 ∧ p.1 ≠ 0 ∧ ∃ g, aget s.tab p.1 = some g ∧ g u = 0 ∧ (∀ x < 6, p.1.testBit x = false → 0 ≤ g x) ∧ ∀ x < 6, p.1.testBit x = false → g x = 0 → pr u ≤ pr x := by
  have I := J.ia
  obtain ⟨w, hw⟩ := aget_mem.mpr (I.gk ▸ List.mem_map_of_mem (f := (·.1)) hp : p.1 ∈ s.lead.map (·.1))
  obtain ⟨h1, h2, h3, h4, i, hi, h5, u1⟩ := I.l1 _ _ hw
  exact ⟨w, hw, h1, h2, h3, fun e => (by rw [e, Nat.zero_testBit] at h5; cases h5), I.M4 _ _ hw⟩
noncomputable def s0 (c : Nat → Nat → Int) : S2 := ⟨(List.range' 1 5).map fun v => (2 ^ v, c v), fun i => 2 ^ i, [], []⟩
theorem inv0 (hc : ∀ v u, 0 ≤ c v u) {q : List Nat} (hq : q.Nodup) (hm : ∀ m, m ∈ q ↔ ∃ i < 6, i ≠ 0 ∧ 2 ^ i = m) (hl : q.length = 5) : Inv c pr (s0 c) q := by
  have pinj : ∀ i j : Nat, 2 ^ i = 2 ^ j → i = j := fun i j h => Nat.pow_right_inj (by decide : 1 < 2) |>.mp h
  have dz : ∀ u v, dual (s0 c).gains u v = 0 := fun u0 u0 => rfl
  have hget : ∀ i < 6, i ≠ 0 → aget (s0 c).tab (2 ^ i) = some (c i) := by
    exact fun i hi h0 => all5 (P := fun i => aget (s0 c).tab (2 ^ i) = some (c i)) rfl rfl rfl rfl rfl hi h0
  refine ⟨?_, ⟨fun u0 => 0, fun X => X, fun u0 u0 u0 h => (by cases h), fun u0 u0 u0 => rfl⟩, hq, fun m => ?_, ?_⟩
  · constructor
    · intro i hi; exact pow_lt hi
    · intro i hi j hj
      show (2 ^ i).testBit j = decide (2 ^ j = 2 ^ i)
      rw [Nat.testBit_two_pow]
      exact decide_eq_decide.mpr ⟨fun h => by rw [h], fun h => (pinj _ _ h).symm⟩
    · rfl
    · rfl
    · intro _ _ h; cases h
    · intro _ _ _ h; cases h
    · intro i hi h0
      refine ⟨c i, hget i hi h0, fun x hx hne => ⟨fun v hv e => ?_, i, hi, rfl, ?_⟩⟩
      · rw [pinj _ _ e, dz]; omega
      · rw [dz]; omega
    · intro u _ v _ _ _
      rw [dz]; exact hc v u
    · intro _ h; cases h
    · rfl
    · exact .nil
    · intro i hi h0 v hv e k hk hkv hd
      have e := pinj _ _ e
      subst e
      have : k ||| (s0 c).own v = k := by
        apply m_ext (or_lt hk (pow_lt hv)) hk
        intro j hj
        rw [or_bit]
        by_cases e : v = j
        · subst e; rw [hkv]; rfl
        · simp [e]
      rw [this]
      exact .refl
    · intro _ _ h; cases h
  · rw [hm]
    exact ⟨fun ⟨i, h1, h2, h3⟩ => ⟨i, h1, h2, h3, rfl⟩, fun ⟨i, h1, h2, h3, _⟩ => ⟨i, h1, h2, h3⟩⟩
  · rw [hl]; exact (by decide : 0 + 5 + 58 ≤ ((List.range 6).map fun i => 2 ^ i).sum)
end
end Mine.E2
end
section
open PySem PySem.W PyProof.Rows
namespace Mine
open E2
noncomputable def tieR (t : Int) (a b : Nat) : Int := if a < b then -t else if b < a then t else 0
theorem tie_lt {t : Int} (ht : t = 1 ∨ t = -1) (a b : Nat) : decide (tieR t a b < 0) = decide (t * (a : Int) < t * (b : Int)) := by
  have e : ∀ x y : Nat, ((x : Int) < (y : Int)) = (x < y) := fun x y => propext Int.ofNat_lt
  unfold tieR
  rcases ht with rfl | rfl
  · rw [Int.one_mul, Int.one_mul, decide_eq_decide.mpr (Iff.of_eq (e a b))]
    by_cases h : a < b
    · rw [if_pos h, decide_eq_true h]; rfl
    · rw [if_neg h, decide_eq_false h]; split <;> rfl
  · rw [Int.neg_mul, Int.neg_mul, Int.one_mul, Int.one_mul, decide_eq_decide.mpr (Int.neg_lt_neg_iff.trans (Iff.of_eq (e b a)))]
    rcases Nat.lt_trichotomy a b with h | h | h
    · rw [if_pos h, decide_eq_false (Nat.lt_asymm h)]; rfl
    · rw [h, if_neg (Nat.lt_irrefl b), if_neg (Nat.lt_irrefl b), decide_eq_false (Nat.lt_irrefl b)]; rfl
    · rw [if_neg (Nat.lt_asymm h), if_pos h, decide_eq_true h]; rfl
theorem tie_le {t : Int} (a b : Nat) (h : t * (b : Int) < t * (a : Int)) (ht : t = 1 ∨ t = -1) : decide (tieR t a b ≤ 0) = false := by
  have h1 : tieR t b a < 0 := of_decide_eq_true ((tie_lt ht b a).trans (decide_eq_true h))
  refine decide_eq_false fun z => ?_
  unfold tieR at h1 z
  rcases Nat.lt_trichotomy a b with q | q | q
  · rw [if_neg (Nat.lt_asymm q), if_pos q] at h1; rw [if_pos q] at z; omega
  · rw [q, if_neg (Nat.lt_irrefl b), if_neg (Nat.lt_irrefl b)] at h1; exact absurd h1 (by decide)
  · rw [if_pos q] at h1; rw [if_neg (Nat.lt_asymm q), if_pos q] at z; omega
noncomputable def rkN (p : Nat) : Nat := ((List.range 33).filter fun q => decide ((nmF q).cps.toList < (nmF p).cps.toList)).length
noncomputable def rkT : List Nat := (List.range 33).map rkN
theorem rkN_lt : ∀ p < 33, ∀ q < 33, ((nmF p).cps.toList < (nmF q).cps.toList ↔ rkN p < rkN q) := by
  have h : ((List.range 33).all fun p => (List.range 33).all fun q => decide ((nmF p).cps.toList < (nmF q).cps.toList) == Nat.blt (rkT.getD p 0) (rkT.getD q 0)) = true := by decide +kernel
  intro p hp q hq
  have h1 := List.all_eq_true.mp (List.all_eq_true.mp h p (List.mem_range.mpr hp)) q (List.mem_range.mpr hq)
  have e : ∀ x < 33, rkT.getD x 0 = rkN x := by
    intro x hx
    simp [rkT, hx]
  rw [e p hp, e q hq, beq_iff_eq] at h1
  rw [← decide_eq_true_iff (p := rkN p < rkN q), ← decide_eq_true_iff (p := (nmF p).cps.toList < (nmF q).cps.toList), h1]
  simp
noncomputable def prT (t : Int) (low i : Nat) : Int := t * (rkN (low + i) : Nat)
section
variable {low : Nat} (hl : low < 28)
include hl
theorem nmA_lt {i j : Nat} (hi : i < 6) (hj : j < 6) : (nmA low i).cps.toList < (nmA low j).cps.toList ↔ rkN (low + i) < rkN (low + j) := rkN_lt _ (by omega) _ (by omega)
theorem rk_inj {i j : Nat} (hi : i < 6) (hj : j < 6) (h : rkN (low + i) = rkN (low + j)) : i = j := by
  have a : ¬ (nmA low i).cps.toList < (nmA low j).cps.toList := by rw [nmA_lt hl hi hj]; omega
  have b : ¬ (nmA low j).cps.toList < (nmA low i).cps.toList := by rw [nmA_lt hl hj hi]; omega
  have e : (nmA low i).cps.toList = (nmA low j).cps.toList := List.le_antisymm (List.not_lt.mp b) (List.not_lt.mp a)
  have e2 : nmA low i = nmA low j := by rw [← mkS_of (nmA low i), ← mkS_of (nmA low j), e]
  exact nmA_inj hl hi hj e2
theorem cmpR_tie (t : Int) (g : Nat → Int) {x b : Nat} (hx : x < 6) (hb : b < 6) : cmpR 2 t (g x, nmA low x) (g b, nmA low b) = if g x < g b then -2 else if g b < g x then 2 else tieR t (rkN (low + x)) (rkN (low + b)) := by
  unfold cmpR tieR
  simp only [nmA_lt hl hx hb, nmA_lt hl hb hx]
theorem cmp_less {t : Int} (ht : t = 1 ∨ t = -1) (g : Nat → Int) {x b : Nat} (hx : x < 6) (hb : b < 6) : decide (cmpR 2 t (g x, nmA low x) (g b, nmA low b) < 0) = lessR (prT t low) g x b := by
  rw [cmpR_tie hl t g hx hb]
  unfold lessR prT
  rcases Int.lt_trichotomy (g x) (g b) with h | h | h
  · rw [if_pos h, decide_eq_true h]; rfl
  · rw [h, if_neg (Int.lt_irrefl _), if_neg (Int.lt_irrefl _), decide_eq_false (Int.lt_irrefl _), decide_eq_true rfl, tie_lt ht]; rfl
  · rw [if_neg (Int.lt_asymm h), if_pos h, decide_eq_false (Int.lt_asymm h), decide_eq_false (Int.ne_of_gt h)]; rfl
theorem cmpR_le {t : Int} (ht : t = 1 ∨ t = -1) (g : Nat → Int) {x b : Nat} (hx : x < 6) (hb : b < 6) (h : x ≠ b → lessR (prT t low) g b x = true) : decide (cmpR 2 t (g x, nmA low x) (g b, nmA low b) ≤ 0) = decide (x = b) := by
  rw [cmpR_tie hl t g hx hb]
  by_cases e : x = b
  · rw [e, if_neg (Int.lt_irrefl _), if_neg (Int.lt_irrefl _), decide_eq_true rfl]
    unfold tieR
    rw [if_neg (Nat.lt_irrefl _), if_neg (Nat.lt_irrefl _)]; rfl
  · have h1 := h e
    unfold lessR prT at h1
    rw [decide_eq_false e]
    rcases Int.lt_trichotomy (g b) (g x) with q | q | q
    · rw [if_neg (Int.lt_asymm q), if_pos q]; rfl
    · rw [q, decide_eq_false (Int.lt_irrefl _), decide_eq_true rfl, Bool.false_or, Bool.true_and] at h1
      rw [q, if_neg (Int.lt_irrefl _), if_neg (Int.lt_irrefl _)]
      exact tie_le _ _ (of_decide_eq_true h1) ht
    · rw [decide_eq_false (Int.lt_asymm q), decide_eq_false (Int.ne_of_gt q)] at h1; cases h1
theorem kget_blk (F : Nat → D) {i : Nat} (hi : i < 6) : ∀ l : List Nat, (∀ j ∈ l, j < 6) → kget (l.map fun j => (nmA low j, F j)) (nmA low i) = if i ∈ l then some (F i) else none
  | [], _ => rfl
  | j :: l, h => by
    have ih := kget_blk F hi l fun j m => h j (.tail _ m)
    show (if nmA low j = nmA low i then some (F j) else kget _ _) = _
    by_cases e : j = i
    · subst e; simp
    · rw [if_neg fun z => e (nmA_inj hl (h j (.head _)) hi z), ih]
      simp [Ne.symm e]
theorem kset_blk (F : Nat → D) {i : Nat} (hi : i < 6) (d : D) : ∀ l : List Nat, (∀ j ∈ l, j < 6) → l.Nodup → i ∈ l → kset (l.map fun j => (nmA low j, F j)) (nmA low i) d = l.map fun j => (nmA low j, if j = i then d else F j)
  | [], _, _, hm => by cases hm
  | j :: l, h, hn, hm => by
    have ⟨n1, n2⟩ := List.nodup_cons.mp hn
    show (if nmA low j = nmA low i then (nmA low j, d) :: _ else (nmA low j, F j) :: kset _ _ _) = _
    by_cases e : j = i
    · subst e
      rw [if_pos rfl]
      simp only [List.map_cons, if_true, List.cons.injEq, true_and]
      apply List.map_congr_left
      intro x hx
      rw [if_neg fun z : x = j => n1 (z ▸ hx)]
    · rw [if_neg fun z => e (nmA_inj hl (h j (.head _)) hi z), kset_blk F hi d l (fun j m => h j (.tail _ m)) n2 ((List.mem_cons.mp hm).resolve_left (Ne.symm e))]
      simp [e]
theorem kset_fold (d : D) : ∀ (a l : List Nat) (F : Nat → D), (∀ j ∈ l, j < 6) → l.Nodup → (∀ i ∈ a, i ∈ l) → (a.map fun i => (nmA low i, d)).foldl (fun k p => kset k p.1 p.2) (l.map fun j => (nmA low j, F j)) = l.map fun j => (nmA low j, if j ∈ a then d else F j)
  | [], l, F, _, _, _ => by simp
  | i :: a, l, F, h, hn, hs => by
    have hi := hs i (.head _)
    rw [List.map_cons, List.foldl_cons]
    show (a.map fun i => (nmA low i, d)).foldl (fun k p => kset k p.1 p.2) (kset (l.map fun j => (nmA low j, F j)) (nmA low i) d) = _
    rw [kset_blk hl F (h i hi) d l h hn hi, kset_fold d a l (fun j => if j = i then d else F j) h hn fun x m => hs x (.tail _ m)]
    apply List.map_congr_left
    intro x _
    by_cases e : x ∈ a
    · simp [e]
    · by_cases e2 : x = i <;> simp [e, e2]
theorem aset_blk (F : Nat → Int) {i : Nat} (hi : i < 6) (d : Int) : ∀ l : List Nat, (∀ j ∈ l, j < 6) → l.Nodup → i ∈ l → aset (l.map fun j => (nmA low j, F j)) (nmA low i) d = l.map fun j => (nmA low j, if j = i then d else F j)
  | [], _, _, hm => by cases hm
  | j :: l, h, hn, hm => by
    have ⟨n1, n2⟩ := List.nodup_cons.mp hn
    show (if nmA low j = nmA low i then (nmA low j, d) :: _ else (nmA low j, F j) :: aset _ _ _) = _
    by_cases e : j = i
    · subst e
      rw [if_pos rfl]
      simp only [List.map_cons, if_true, List.cons.injEq, true_and]
      apply List.map_congr_left
      intro x hx
      rw [if_neg fun z : x = j => n1 (z ▸ hx)]
    · rw [if_neg fun z => e (nmA_inj hl (h j (.head _)) hi z), aset_blk F hi d l (fun j m => h j (.tail _ m)) n2 ((List.mem_cons.mp hm).resolve_left (Ne.symm e))]
      simp [e]
theorem aget_blk (F : Nat → Int) {i : Nat} (hi : i < 6) : ∀ l : List Nat, (∀ j ∈ l, j < 6) → aget (l.map fun j => (nmA low j, F j)) (nmA low i) = if i ∈ l then some (F i) else none
  | [], _ => rfl
  | j :: l, h => by
    have ih := aget_blk F hi l fun j m => h j (.tail _ m)
    show (if nmA low j = nmA low i then some (F j) else aget _ _) = _
    by_cases e : j = i
    · subst e; simp
    · rw [if_neg fun z => e (nmA_inj hl (h j (.head _)) hi z), ih]
      simp [Ne.symm e]
theorem addC_go (l : List Nat) (h6 : ∀ j ∈ l, j < 6) (hn : l.Nodup) (y : Int) : ∀ (b : List Nat) (F : Nat → Int), (∀ i ∈ b, i ∈ l) → b.Nodup → addC (l.map fun j => (nmA low j, F j)) (b.map fun j => (nmA low j, y)) = l.map fun j => (nmA low j, if j ∈ b then F j + y else F j)
  | [], F, _, _ => by simp [addC]
  | i :: b, F, hs, hb => by
    have ⟨n1, n2⟩ := List.nodup_cons.mp hb
    have hi := hs i (.head _)
    have e : addC (l.map fun j => (nmA low j, F j)) ((i :: b).map fun j => (nmA low j, y)) = addC (aset (l.map fun j => (nmA low j, F j)) (nmA low i) ((aget (l.map fun j => (nmA low j, F j)) (nmA low i)).getD 0 + y)) (b.map fun j => (nmA low j, y)) := rfl
    rw [e, aget_blk hl F (h6 i hi) l h6, if_pos hi, Option.getD_some, aset_blk hl F (h6 i hi) _ l h6 hn hi, addC_go l h6 hn y b _ (fun x m => hs x (.tail _ m)) n2]
    apply List.map_congr_left
    intro x _
    by_cases hb2 : x ∈ b
    · have : x ≠ i := fun z => n1 (z ▸ hb2)
      simp [hb2, this]
    · by_cases e2 : x = i
      · subst e2; simp [hb2]
      · simp [hb2, e2]
theorem kget_msk {β : Type} (F : Nat → β → D) {m : Nat} (hm : m < 64) (h0 : m ≠ 0) : ∀ l : List (Nat × β), (∀ p ∈ l, p.1 < 64 ∧ p.1 ≠ 0) → kget (l.map fun p => (tokA low p.1, F p.1 p.2)) (tokA low m) = (aget l m).map (F m)
  | [], _ => rfl
  | (a, b) :: l, h => by
    have ih := kget_msk F hm h0 l fun j m => h j (.tail _ m)
    have ⟨h1, h2⟩ := h (a, b) (.head _)
    show (if tokA low a = tokA low m then some (F a b) else kget _ _) = _
    unfold aget
    by_cases e : a = m
    · subst e; simp
    · rw [if_neg fun z => e (tok_inj hl h1 hm h2 h0 z), ih, if_neg e]
theorem kset_msk {β : Type} (F : Nat → β → D) {m : Nat} (d : β) (hm : m < 64) (h0 : m ≠ 0) : ∀ l : List (Nat × β), (∀ p ∈ l, p.1 < 64 ∧ p.1 ≠ 0) → kset (l.map fun p => (tokA low p.1, F p.1 p.2)) (tokA low m) (F m d) = (aset l m d).map fun p => (tokA low p.1, F p.1 p.2)
  | [], _ => rfl
  | (a, b) :: l, h => by
    have ih := kset_msk F d hm h0 l fun j m => h j (.tail _ m)
    have ⟨h1, h2⟩ := h (a, b) (.head _)
    show (if tokA low a = tokA low m then (tokA low a, F m d) :: _ else (tokA low a, F a b) :: kset _ _ _) = _
    unfold aset
    by_cases e : a = m
    · subst e; simp
    · rw [if_neg fun z => e (tok_inj hl h1 hm h2 h0 z), ih, if_neg e]; rfl
end
theorem nm_nodup {low : Nat} (hl : low < 28) {l : List Nat} (h6 : ∀ j ∈ l, j < 6) (hn : l.Nodup) : (l.map (nmA low)).Nodup := by
  induction l with
  | nil => exact .nil
  | cons a l ih =>
    have ⟨n1, n2⟩ := List.nodup_cons.mp hn
    rw [List.map_cons, List.nodup_cons]
    refine ⟨fun m => ?_, ih (fun j m => h6 j (.tail _ m)) n2⟩
    obtain ⟨x, hx, e⟩ := List.mem_map.mp m
    exact n1 (nmA_inj hl (h6 x (.tail _ hx)) (h6 a (.head _)) e ▸ hx)
noncomputable def Fm (S : List Nat) (σ σ' : St) : Prop := σ.length ≤ σ'.length ∧ ∀ k < σ.length, k ∉ S → σ'[k]? = σ[k]?
theorem Fm.refl (S : List Nat) (σ : St) : Fm S σ σ := ⟨Nat.le_refl _, fun u0 u0 u0 => rfl⟩
theorem Fm.trans {S : List Nat} {a b c : St} (h : Fm S a b) (k : Fm S b c) : Fm S a c :=
  ⟨Nat.le_trans h.1 k.1, fun n hn hs => (k.2 n (Nat.lt_of_lt_of_le hn h.1) hs).trans (h.2 n hn hs)⟩
theorem Fm.app (S : List Nat) (σ J : St) : Fm S σ (σ ++ J) := ⟨by simp, fun k hk u0 => List.getElem?_append_left hk⟩
theorem Fm.set {S : List Nat} {n : Nat} (σ : St) (x : AO) (h : n ∈ S ∨ σ.length ≤ n) : Fm S σ (σ.set n x) :=
  ⟨by simp, fun k hk hs => List.getElem?_set_ne (by rintro rfl; rcases h with h | h; exact hs h; omega)⟩
theorem Fm.mono {S T : List Nat} {a b : St} (h : Fm S a b) (hs : ∀ x ∈ S, x ∈ T) : Fm T a b := ⟨h.1, fun k hk hn => h.2 k hk fun m => hn (hs k m)⟩
theorem Fm.at {S : List Nat} {a b : St} (h : Fm S a b) {k : Nat} {x : AO} (hk : a[k]? = some x) (hn : k ∉ S) : b[k]? = some x := by
  rw [h.2 k (List.getElem?_eq_some_iff.mp hk).1 hn, hk]
noncomputable def rowsD (low m : Nat) (g : Nat → Int) : List (Str × Int) := (outs m).map fun u => (nmA low u, g u)
noncomputable def tabD (low : Nat) (tab : List (Nat × (Nat → Int))) : List (Str × D) := tab.map fun p => (tokA low p.1, .ds (intD (rowsD low p.1 p.2)))
noncomputable def ownD (low : Nat) (own : Nat → Nat) : List (Str × D) := (List.range 6).map fun i => (nmA low i, .str (tokA low (own i)))
noncomputable def leadD (low : Nat) (lead : List (Nat × Nat)) : List (Str × D) := lead.map fun p => (tokA low p.1, .str (nmA low p.2))
noncomputable def gainsD (low : Nat) (gains : Gs) : List D := gains.map fun p => .tup [.str (tokA low p.1), .int p.2, .bool true]
noncomputable def flagsD (low : Nat) : List (Str × D) := (List.range 6).map fun i => (nmA low i, .int ((2 ^ (low + i) : Nat) : Int))
theorem rows_intD (low m : Nat) (g : Nat → Int) : intD (rowsD low m g) = (outs m).map fun u => (nmA low u, .int (g u)) := by
  simp [intD, rowsD, mapD]
theorem outs_lt {m : Nat} : ∀ j ∈ outs m, j < 6 := fun j h => (outs_mem.mp h).1
theorem outs_nodup (m : Nat) : (outs m).Nodup := List.Pairwise.filter _ List.nodup_range
theorem outs_len (m : Nat) : (outs m).length ≤ 6 := by
  have := List.length_filter_le (fun i => !m.testBit i) (List.range 6)
  simpa [outs] using this
structure CL (low oc tb ow ld ga od : Nat) (t : Int) (s : S2) (σ : St) : Prop where
  c1 : σ[tb]? = some (.ds (tabD low s.tab))
  c2 : σ[ow]? = some (.ds (ownD low s.own))
  c3 : σ[ld]? = some (.ds (leadD low s.lead))
  c4 : σ[ga]? = some (.lst (gainsD low s.gains))
  c5 : σ[od]? = some (.ins oc (tcF (ordD 2 t)))
structure KO (s : S2) : Prop where
  tab : ∀ p ∈ s.tab, p.1 < 64 ∧ p.1 ≠ 0
  lead : ∀ p ∈ s.lead, p.1 < 64 ∧ p.1 ≠ 0
  own : ∀ i < 6, s.own i < 64 ∧ s.own i ≠ 0
theorem filter_eq_one {l : List Nat} {u : Nat} (hn : l.Nodup) (h : u ∈ l) : l.filter (fun x => decide (x = u)) = [u] := by
  induction l with
  | nil => cases h
  | cons a l ih =>
    have ⟨n1, n2⟩ := List.nodup_cons.mp hn
    by_cases e : a = u
    · subst e
      rw [List.filter_cons, if_pos (by simp)]
      congr 1
      rw [List.filter_eq_nil_iff]
      intro x hx
      simp
      rintro rfl
      exact n1 hx
    · rw [List.filter_cons, if_neg (by simpa using e)]
      exact ih n2 ((List.mem_cons.mp h).resolve_left (Ne.symm e))
theorem has_tok {low : Nat} (hl : low < 28) {x : Nat} (hx : x < 64) (h0 : x ≠ 0) : ∀ {rg : List Nat}, (∀ p ∈ rg, p < 64 ∧ p ≠ 0) → (rg.map (tokA low)).any (· == tokA low x) = rg.contains x
  | [], _ => rfl
  | a :: l, hr => by
    have ha := hr a (.head _)
    rw [List.map_cons, List.any_cons, has_tok hl hx h0 fun p m => hr p (.tail _ m), List.contains_cons]
    by_cases h : a = x
    · subst h; rw [BEq.rfl, BEq.rfl]
    · rw [beq_eq_false_iff_ne.mpr (fun z => h (tok_inj hl ha.1 hx ha.2 h0 z)), beq_eq_false_iff_ne.mpr (Ne.symm h)]
theorem has_blk {low : Nat} (hl : low < 28) {x : Nat} (hx : x < 6) : ∀ {a : List Nat}, (∀ p ∈ a, p < 6) → (a.map (nmA low)).any (· == nmA low x) = a.contains x
  | [], _ => rfl
  | b :: l, hr => by
    have hb := hr b (.head _)
    rw [List.map_cons, List.any_cons, has_blk hl hx fun p m => hr p (.tail _ m), List.contains_cons]
    by_cases h : b = x
    · subst h; rw [BEq.rfl, BEq.rfl]
    · rw [beq_eq_false_iff_ne.mpr (fun z => h (nmA_inj hl hb hx z)), beq_eq_false_iff_ne.mpr (Ne.symm h)]
theorem bits_mkM (p : Nat → Bool) : bits (mkM p) = (List.range 6).filter p := by
  unfold bits
  apply List.filter_congr
  intro i hi
  exact mkM_bit p i (List.mem_range.mp hi)
theorem outs_mkM (p : Nat → Bool) : outs (mkM p) = (List.range 6).filter fun i => !p i := by
  unfold outs
  apply List.filter_congr
  intro i hi
  rw [mkM_bit p i (List.mem_range.mp hi)]
section
variable {low : Nat} {rg : List Nat} {own : Nat → Nat}
theorem flags_at (hl : low < 28) {i : Nat} (hi : i < 6) : kget (flagsD low) (nmA low i) = some (.int ((2 ^ (low + i) : Nat) : Int)) := by
  unfold flagsD
  rw [kget_blk hl (fun i => .int ((2 ^ (low + i) : Nat) : Int)) hi (List.range 6) (fun j h => List.mem_range.mp h), if_pos (List.mem_range.mpr hi)]
noncomputable def insL (own : Nat → Nat) (rg : List Nat) : List Nat := (List.range 6).filter fun i => rg.contains (own i)
theorem insL_lt {own : Nat → Nat} {rg : List Nat} : ∀ p ∈ insL own rg, p < 6 := fun p h => List.mem_range.mp (List.mem_filter.mp h).1
theorem insL_nodup (own : Nat → Nat) (rg : List Nat) : (insL own rg).Nodup := List.Pairwise.filter _ List.nodup_range
theorem insL_len (own : Nat → Nat) (rg : List Nat) : (insL own rg).length ≤ 6 := by
  have := List.length_filter_le (fun i => rg.contains (own i)) (List.range 6)
  simpa [insL] using this
theorem valF_int (l : List Nat) : (l.map fun p => ((2 ^ p : Nat) : Int)).sum = ((valF l : Nat) : Int) := by
  unfold valF
  induction l with
  | nil => rfl
  | cons a l ih => simp only [List.map_cons, List.sum_cons, ih]; omega
end
section
variable {low oc tb ow ld ga od : Nat} {t : Int} {s : S2} {σ : St}
theorem CL.app (C : CL low oc tb ow ld ga od t s σ) (J : St) : CL low oc tb ow ld ga od t s (σ ++ J) := by
  have h : ∀ {k : Nat} {x : AO}, σ[k]? = some x → (σ ++ J)[k]? = some x := fun h => by rw [List.getElem?_append_left (List.getElem?_eq_some_iff.mp h).1, h]
  exact ⟨h C.c1, h C.c2, h C.c3, h C.c4, h C.c5⟩
theorem CL.off (C : CL low oc tb ow ld ga od t s σ) {n : Nat} (x : AO) (h : n ∉ [tb, ow, ld, ga, od]) : CL low oc tb ow ld ga od t s (σ.set n x) := by
  simp only [List.mem_cons, List.not_mem_nil, or_false, not_or] at h
  obtain ⟨h1, h2, h3, h4, h5⟩ := h
  exact ⟨by rw [List.getElem?_set_ne h1]; exact C.c1, by rw [List.getElem?_set_ne h2]; exact C.c2, by rw [List.getElem?_set_ne h3]; exact C.c3, by rw [List.getElem?_set_ne h4]; exact C.c4, by rw [List.getElem?_set_ne h5]; exact C.c5⟩
theorem CL.frame (C : CL low oc tb ow ld ga od t s σ) {S : List Nat} {σ' : St} (F : Fm S σ σ') (h : ∀ n ∈ [tb, ow, ld, ga, od], n ∉ S) : CL low oc tb ow ld ga od t s σ' :=
  ⟨F.at C.c1 (h _ (by simp)), F.at C.c2 (h _ (by simp)), F.at C.c3 (h _ (by simp)), F.at C.c4 (h _ (by simp)), F.at C.c5 (h _ (by simp))⟩
theorem at_lt {σ : St} {k : Nat} {x : AO} (h : σ[k]? = some x) : k < σ.length := (List.getElem?_eq_some_iff.mp h).1
variable (nd : [tb, ow, ld, ga, od].Nodup)
include nd
theorem CL.tab (C : CL low oc tb ow ld ga od t s σ) (T : List (Nat × (Nat → Int))) : CL low oc tb ow ld ga od t ⟨T, s.own, s.lead, s.gains⟩ (σ.set tb (.ds (tabD low T))) := by
  simp only [List.nodup_cons, List.mem_cons, List.not_mem_nil, or_false, not_or] at nd
  obtain ⟨⟨a1, a2, a3, a4⟩, ⟨b1, b2, b3⟩, ⟨d1, d2⟩, e1, u1⟩ := nd
  exact ⟨List.getElem?_set_self (at_lt C.c1), by rw [List.getElem?_set_ne a1]; exact C.c2, by rw [List.getElem?_set_ne a2]; exact C.c3, by rw [List.getElem?_set_ne a3]; exact C.c4, by rw [List.getElem?_set_ne a4]; exact C.c5⟩
theorem CL.own (C : CL low oc tb ow ld ga od t s σ) (T : Nat → Nat) : CL low oc tb ow ld ga od t ⟨s.tab, T, s.lead, s.gains⟩ (σ.set ow (.ds (ownD low T))) := by
  simp only [List.nodup_cons, List.mem_cons, List.not_mem_nil, or_false, not_or] at nd
  obtain ⟨⟨a1, a2, a3, a4⟩, ⟨b1, b2, b3⟩, ⟨d1, d2⟩, e1, u1⟩ := nd
  exact ⟨by rw [List.getElem?_set_ne (Ne.symm a1)]; exact C.c1, List.getElem?_set_self (at_lt C.c2), by rw [List.getElem?_set_ne b1]; exact C.c3, by rw [List.getElem?_set_ne b2]; exact C.c4, by rw [List.getElem?_set_ne b3]; exact C.c5⟩
theorem CL.lead (C : CL low oc tb ow ld ga od t s σ) (T : List (Nat × Nat)) : CL low oc tb ow ld ga od t ⟨s.tab, s.own, T, s.gains⟩ (σ.set ld (.ds (leadD low T))) := by
  simp only [List.nodup_cons, List.mem_cons, List.not_mem_nil, or_false, not_or] at nd
  obtain ⟨⟨a1, a2, a3, a4⟩, ⟨b1, b2, b3⟩, ⟨d1, d2⟩, e1, u1⟩ := nd
  exact ⟨by rw [List.getElem?_set_ne (Ne.symm a2)]; exact C.c1, by rw [List.getElem?_set_ne (Ne.symm b1)]; exact C.c2, List.getElem?_set_self (at_lt C.c3), by rw [List.getElem?_set_ne d1]; exact C.c4, by rw [List.getElem?_set_ne d2]; exact C.c5⟩
theorem CL.gains (C : CL low oc tb ow ld ga od t s σ) (T : Gs) : CL low oc tb ow ld ga od t ⟨s.tab, s.own, s.lead, T⟩ (σ.set ga (.lst (gainsD low T))) := by
  simp only [List.nodup_cons, List.mem_cons, List.not_mem_nil, or_false, not_or] at nd
  obtain ⟨⟨a1, a2, a3, a4⟩, ⟨b1, b2, b3⟩, ⟨d1, d2⟩, e1, u1⟩ := nd
  exact ⟨by rw [List.getElem?_set_ne (Ne.symm a3)]; exact C.c1, by rw [List.getElem?_set_ne (Ne.symm b2)]; exact C.c2, by rw [List.getElem?_set_ne (Ne.symm d1)]; exact C.c3, List.getElem?_set_self (at_lt C.c4), by rw [List.getElem?_set_ne e1]; exact C.c5⟩
end
theorem aset_all {α β : Type} [DecidableEq α] {P : α × β → Prop} {k : α} {d : β} (hd : P (k, d)) : ∀ {l : List (α × β)}, (∀ p ∈ l, P p) → ∀ p ∈ aset l k d, P p
  | [], _ => by intro p hp; rw [List.mem_singleton.mp (show p ∈ [(k, d)] from hp)]; exact hd
  | (j, e) :: l, h => by
    intro p hp
    unfold aset at hp
    split at hp
    · rename_i hj
      rcases List.mem_cons.mp hp with rfl | hp
      · rw [hj]; exact hd
      · exact h p (.tail _ hp)
    · rcases List.mem_cons.mp hp with rfl | hp
      · exact h _ (.head _)
      · exact aset_all hd (fun p m => h p (.tail _ m)) p hp
structure KP (s : S2) : Prop where
  k : KO s
  l6 : ∀ p ∈ s.lead, p.2 < 6
  tl : s.tab.length ≤ 5 + 2 * s.gains.length
theorem sum_le_mul {f : Nat → Nat} {B : Nat} : ∀ {l : List Nat}, (∀ i ∈ l, f i ≤ B) → (l.map f).sum ≤ l.length * B
  | [], _ => Nat.zero_le _
  | a :: l, h => by
    rw [List.length_cons, Nat.succ_mul, Nat.add_comm]
    exact Nat.add_le_add (h a (.head _)) (sum_le_mul fun i m => h i (.tail _ m))
theorem sum6_le {f : Nat → Nat} {B : Nat} (h : ∀ i < 6, f i ≤ B) : ((List.range 6).map f).sum ≤ 6 * B := sum_le_mul fun i m => h i (List.mem_range.mp m)
theorem E2.Inv.sz2 {c : Nat → Nat → Int} {pr : Nat → Int} {s : S2} {q : List Nat} (J : E2.Inv c pr s q) : s.gains.length + q.length ≤ 320 := by
  have h1 := J.sz
  have h2 := sum6_le (f := s.own) (B := 63) fun i hi => by have := J.ia.o1 i hi; omega
  omega
theorem E2.Inv.ll {c : Nat → Nat → Int} {pr : Nat → Int} {s : S2} {q : List Nat} (J : E2.Inv c pr s q) : s.lead.length = s.gains.length := by
  have := congrArg List.length J.ia.gk
  simpa using this.symm
theorem KO.own_of {c : Nat → Nat → Int} {pr : Nat → Int} {s : S2} (I : IA c pr s) : ∀ i < 6, s.own i < 64 ∧ s.own i ≠ 0 := fun i hi => ⟨I.o1 i hi, fun e => by
  have := (I.own_eq hi hi).mpr rfl
  rw [e, Nat.zero_testBit] at this; cases this⟩
theorem best_less {low m u : Nat} {t : Int} {g : Nat → Int} (hl : low < 28) (ht : t = 1 ∨ t = -1) (hu : u ∈ outs m) (hb : ∀ x ∈ outs m, g u ≤ g x ∧ (g x = g u → prT t low u ≤ prT t low x)) : ∀ x ∈ outs m, x ≠ u → lessR (prT t low) g u x = true := by
  intro x hx hxu
  have ⟨b1, b2⟩ := hb x hx
  have hne2 : prT t low x ≠ prT t low u := by
    unfold prT
    intro e
    apply hxu
    apply rk_inj hl (outs_lt x hx) (outs_lt _ hu)
    rcases ht with rfl | rfl <;> omega
  unfold lessR
  rw [Bool.or_eq_true, Bool.and_eq_true]
  simp only [decide_eq_true_iff]
  by_cases e : g x = g u
  · have := b2 e
    exact .inr ⟨e.symm, by omega⟩
  · exact .inl (by omega)
end Mine
end
section
open PySem PySem.W PyProof.Rows
namespace Mine
section
variable {K : Ctx} {ρ ρ' : Rho} {σ σ₁ σ' : St} {scope : Scope} {α : Type} {ds : List D} {target iter elt kx vx : Expr} {ifs : List Expr} {pos py spos : Pos} {y : Str} {w : W}
theorem TS_lm (i : Nat) (own : List Nat) (e f : α → D) (xs : List α) (hi : TI K ρ iter target σ ds σ₁) (hd : ds = xs.map e) (hz : xs.length ≤ 16777216) (H : ∀ cenv, ∀ x ∈ xs, CT (K.sub scope own cenv) (blank own 0 ρ) σ₁ target elt (e x) (f x)) (hy : K.ns[i]? = some y) (hm : K.may ρ i = true) (h : compB K.fd scope own = true := by kernel_rfl) (hw : swB K.fd.scope scope y py.line pos.line = true := by kernel_rfl) (hs : ∀ x, foldedSetIterable iter K.env x = pure x := by exact fun u0 => rfl) :
    TS K ρ (exec (.Assign [.Name y py] (.ListComp elt [⟨target, iter, [], 0⟩] scope pos) spos) K.env) σ .next (ρ.set i (some (.lst (xs.map f)))) σ₁ :=
  TS_lc (comp_l h) hi (fun a cenv ha => hd ▸ CRun.map ha e f xs hz fun x m => let ⟨a, l, t⟩ := H cenv x m; ⟨_, a, l, t⟩) hw hy hm (fun a w w' x I n q => cnv_rest made_L x I n q) hs
theorem TS_lf (i : Nat) (own : List Nat) (e f : α → D) (p : α → Bool) (xs : List α) (hi : TI K ρ iter target σ ds σ₁) (hd : ds = xs.map e) (hz : xs.length ≤ 16777216) (H : ∀ cenv, ∀ x ∈ xs, CF (K.sub scope own cenv) (blank own 0 ρ) σ₁ target elt ifs (e x) (f x) (p x)) (hy : K.ns[i]? = some y) (hm : K.may ρ i = true) (h : compB K.fd scope own = true := by kernel_rfl) (hw : swB K.fd.scope scope y py.line pos.line = true := by kernel_rfl) (hs : ∀ x, foldedSetIterable iter K.env x = pure x := by exact fun u0 => rfl) :
    TS K ρ (exec (.Assign [.Name y py] (.ListComp elt [⟨target, iter, ifs, 0⟩] scope pos) spos) K.env) σ .next (ρ.set i (some (.lst ((xs.filter p).map f)))) σ₁ :=
  TS_lc (comp_l h) hi (fun a cenv ha => hd ▸ CRun.list ha e f p xs [] (by rw [List.length_nil, Nat.zero_add]; exact hz) fun x m => let ⟨a, l, t, u⟩ := H cenv x m; ⟨_, a, l, t, u⟩) hw hy hm (fun a w w' x I n q => cnv_rest made_L x I n q) hs
theorem TS_asgs {i m : Nat} {e : Expr} {d : D} (h : TE K ρ (eval e K.env) σ d σ') (hi : K.ns[i]? = some y) (hm : K.may ρ i = true) (scope : Scope) (hw : swB K.fd.scope scope y py.line m = false := by kernel_rfl) (he : swapsWith e (some (.Name y py)) spos.line K.env = pure (K.env.blockKind == .function && K.env.kindOf y == some .local && py.line == m && !(scope.names.any fun (n, k) => n == y && (k == .local || k == .cell))) := by rfl) :
    TS K ρ (exec (.Assign [.Name y py] e spos) K.env) σ .next (ρ.set i (some d)) σ' := fun u0 u0 p => TS_asg h hi hm (swaps p.o he hw) p
theorem TS_lf0 (i : Nat) (own : List Nat) (e f : α → D) (p : α → Bool) (xs : List α) (hi : TI K ρ iter target σ ds σ₁) (hd : ds = xs.map e) (hz : xs.length ≤ 16777216) (H : ∀ cenv, ∀ x ∈ xs, CF (K.sub scope own cenv) (blank own 0 ρ) σ₁ target elt ifs (e x) (f x) (p x)) (hy : K.ns[i]? = some y) (hm : K.may ρ i = true) (h : compB K.fd scope own = true := by kernel_rfl) (hw : swB K.fd.scope scope y py.line pos.line = false := by kernel_rfl) (hs : ∀ x, foldedSetIterable iter K.env x = pure x := by exact fun u0 => rfl) :
    TS K ρ (exec (.Assign [.Name y py] (.ListComp elt [⟨target, iter, ifs, 0⟩] scope pos) spos) K.env) σ .next (ρ.set i (some (.lst ((xs.filter p).map f)))) σ₁ :=
  TS_asgs (TP.rest made_L (TP_lf own e f p xs hi hd hz H h hs)) hy hm scope hw rfl
inductive CD (K : Ctx) (ρ : Rho) (σ : St) (target kx vx : Expr) (ifs : List Expr) (d : D) (k : Str) (v : D) (q : Bool) : Prop
  | mk {ρ₁ : Rho} (a : Asg K target d ρ ρ₁) (l : Le ρ ρ₁) (t : TB K ρ₁ (testsOf ifs K.env) σ q σ) (e : q = true → TE K ρ₁ (eval kx K.env) σ (.str k) σ ∧ TE K ρ₁ (eval vx K.env) σ v σ)
theorem TP_df (own : List Nat) (e f : α → D) (k : α → Str) (p : α → Bool) (xs : List α) (hi : TI K ρ iter target σ ds σ₁) (hd : ds = xs.map e) (hz : xs.length ≤ 16777216) (hn : ((xs.filter p).map k).Nodup) (H : ∀ cenv, ∀ x ∈ xs, CD (K.sub scope own cenv) (blank own 0 ρ) σ₁ target kx vx ifs (e x) (k x) (f x) (p x)) (h : compB K.fd scope own = true := by kernel_rfl) (hs : ∀ x, foldedSetIterable iter K.env x = pure x := by exact fun u0 => rfl) :
    TP K ρ (eval (.DictComp kx vx [⟨target, iter, ifs, 0⟩] scope pos) K.env) σ (fun a => GD K.C a ((xs.filter p).map fun x => (k x, f x))) σ₁ :=
  TP_dc (comp_d h) hi (fun a cenv ha => hd ▸ CRun.dict ha e f k p xs [] (by rw [List.length_nil, Nat.zero_add]; exact hz) hn fun x m => let ⟨a, l, t, u⟩ := H cenv x m; ⟨_, a, l, t, u⟩) hs
theorem TP_dm (own : List Nat) (e f : α → D) (k : α → Str) (xs : List α) (hi : TI K ρ iter target σ ds σ₁) (hd : ds = xs.map e) (hz : xs.length ≤ 16777216) (hn : (xs.map k).Nodup) (H : ∀ cenv, ∀ x ∈ xs, CD (K.sub scope own cenv) (blank own 0 ρ) σ₁ target kx vx [] (e x) (k x) (f x) true) (h : compB K.fd scope own = true := by kernel_rfl) (hs : ∀ x, foldedSetIterable iter K.env x = pure x := by exact fun u0 => rfl) :
    TP K ρ (eval (.DictComp kx vx [⟨target, iter, [], 0⟩] scope pos) K.env) σ (fun a => GD K.C a (xs.map fun x => (k x, f x))) σ₁ := by
  have hf : xs.filter (fun u0 => true) = xs := List.filter_eq_self.mpr fun u0 u0 => rfl
  have := TP_df (kx := kx) (vx := vx) (pos := pos) (scope := scope) own e f k (fun u0 => true) xs hi hd hz (by rw [hf]; exact hn) H h hs
  rwa [hf] at this
theorem EnvOk.put {i : Nat} {d d' : D} (hr : ρ[i]? = some (some d)) (V : EnvOk K w ρ) (hv : ∀ v, Rep K.C w d v → Rep K.C w d' v) : EnvOk K w (ρ.set i (some d')) := by
  have hl := (List.getElem?_eq_some_iff.mp hr).1
  have tg : ∀ j, K.tagOf (ρ.set i (some d')) j = K.tagOf ρ j := fun j => by
    unfold Ctx.tagOf
    by_cases q : i = j
    · subst q; rw [List.getElem?_set_self hl, hr]
    · rw [List.getElem?_set_ne q]
  have get : ∀ {j : Nat} {e : D} {v : Value}, (ρ.set i (some d'))[j]? = some (some e) → (∀ e', ρ[j]? = some (some e') → Rep K.C w e' v) → Rep K.C w e v := fun {j e v} h a => by
    by_cases q : i = j
    · subst q; cases (List.getElem?_set_self hl).symm.trans h; exact hv v (a _ hr)
    · exact a e ((List.getElem?_set_ne q).symm.trans h)
  have old : ∀ {j : Nat} {e : D}, (ρ.set i (some d'))[j]? = some (some e) → ∃ e', ρ[j]? = some (some e') := fun {j e} h => by
    by_cases q : i = j
    · subst q; exact ⟨_, hr⟩
    · exact ⟨e, (List.getElem?_set_ne q).symm.trans h⟩
  refine ⟨let ⟨o, es, ep, z, e, sk, val⟩ := V.loc; ⟨o, es, ep, z, e, sk, fun j y e a b c => ?_⟩, fun y c a => let ⟨o, ov, t, z, e, ne, ht, val, own⟩ := V.cel y c a; ⟨o, ov, t, z, e, ne, ht, fun j e a b c => ?_, fun i a b c => (own i a b c).trans (tg i).symm⟩, V.ids⟩
  · obtain ⟨e', q⟩ := old c
    obtain ⟨v, n, u1⟩ := val j y e' a b q
    refine ⟨v, n, get c fun e'' q' => ?_⟩
    obtain ⟨v', n', r⟩ := val j y e'' a b q'
    cases n.symm.trans n'; exact r
  · obtain ⟨e', q⟩ := old c
    obtain ⟨v, n, u1⟩ := val j e' a b q
    refine ⟨v, n, get c fun e'' q' => ?_⟩
    obtain ⟨v', n', r⟩ := val j e'' a b q'
    cases n.symm.trans n'; exact r
inductive FrzTo (K : Ctx) (w : W) (ρ : Rho) (σ : St) : Prop
  | mk (w' : W) (e : w'.s = w.s) (x : Step NoF w w') (p : Ok K ρ σ w')
theorem Ok.frz {i n : Nat} {c : AO} {d : D} (hr : ρ[i]? = some (some (.loc n))) (h : σ[n]? = some c) (f : Frz c d) (p : Ok K ρ σ w) : FrzTo K w (ρ.set i (some d)) (σ.set n .dead) := by
  have hn : n < w.mn.length := p.I.len ▸ (List.getElem?_eq_some_iff.mp h).1
  have k := p.I.ok n c _ h (List.getElem?_eq_getElem hn)
  have fin : ∀ {o : Obj} (z : At w (.ob n) w.mn[n] o), (∀ w', Mono w w' → At w' .fz w.mn[n] o → Rep K.C w' d (.ref w.mn[n])) → FrzTo K w (ρ.set i (some d)) (σ.set n .dead) := fun z g => by
    obtain ⟨y, I', z'⟩ := frz_put p.I z
    refine ⟨w.put [w.mn[n]] .fz w.s.heap w.s.toks [], rfl, y, p.o, I', (p.V.stepN p.o y).put hr fun v r => ?_⟩
    obtain ⟨a, e, q⟩ := r
    cases (List.append_nil w.mn ▸ e : w.mn[n]? = some a).symm.trans (List.getElem?_eq_getElem hn)
    exact q ▸ g _ y.toMono z'
  cases f with
  | lst l => obtain ⟨vs, m, z, r⟩ := k; exact fin z fun w' M z' => ⟨_, vs, m, z', RepL.mono M _ _ r⟩
  | ds l => obtain ⟨o, vs, m, z, dd, r⟩ := k; exact fin z fun w' M z' => ⟨_, o, vs, m, z', dd, RepS.mono M _ _ r⟩
  | di l => obtain ⟨o, vs, m, z, dd, r⟩ := k; exact fin z fun w' M z' => ⟨_, o, vs, m, z', dd, RepI.mono M _ _ r⟩
theorem TR.frz (i : Nat) {n : Nat} {c : AO} {d e : D} {u : Sem Flow} (hr : ρ[i]? = some (some (.loc n))) (hn : σ[n]? = some c) (f : Frz c d) (h : TR K (ρ.set i (some d)) u (σ.set n .dead) e σ') : TR K ρ u σ e σ' := fun w E p => by
  obtain ⟨w', q, x, p'⟩ := p.frz hr hn f
  exact q ▸ wpAny_mono (h p') (fun u0 u0 o => o.after x.ofN) fun u0 u0 e => e
theorem TS.frz (i : Nat) {n : Nat} {c : AO} {d : D} {fl : Fl} {u : Sem Flow} (hr : ρ[i]? = some (some (.loc n))) (hn : σ[n]? = some c) (f : Frz c d) (h : TS K (ρ.set i (some d)) u (σ.set n .dead) fl ρ' σ') : TS K ρ u σ fl ρ' σ' := fun w E p => by
  obtain ⟨w', q, x, p'⟩ := p.frz hr hn f
  exact q ▸ wpAny_mono (h p') (fun u0 u0 o => o.after x.ofN) fun u0 u0 e => e
end
end Mine
end
section
open PySem PySem.W PyProof.Rows
namespace Mine
open E2
noncomputable abbrev FnP (C : Cx) (x : Str) (k : Nat) (a : Addr) : Prop := Fn C x (pT k).params (pT k).scope (pT k).body a
structure Pr (C : Cx) where
  G : Names C
  a2 : Addr
  F2 : FnP C "add_func_stats" 2 a2
  a3 : Addr
  F3 : FnP C "add_callers" 3 a3
  a4 : Addr
  F4 : FnP C "count_calls" 4 a4
  fl : GlbD C "COMPILER_FLAG_NAMES" (.di (mapD .str flagT))
  a7 : Addr
  F7 : FnP C "pretty_flags" 7 a7
  a8 : Addr
  F8 : FnP C "_parse_varint" 8 a8
  a12 : Addr
  F12 : FnP C "_law_stream" 12 a12
  p12 : Addr
  T12 : FnTab C (pT 12) a12 p12
  a13 : Addr
  F13 : FnP C "_law_spelled" 13 a13
  a14 : Addr
  F14 : FnP C "_law_octets" 14 a14
  a15 : Addr
  F15 : FnP C "_law_run" 15 a15
  a16 : Addr
  F16 : FnP C "_law_take" 16 a16
  tc : Addr
  tg : Glb C "TupleComp" (.ref tc)
  ti : InsFacts C tc "comp_select_list"
  t0 : Addr
  T0 : Meth C tc "__init__" (pM 1 0).params (pM 1 0).scope (pM 1 0).body t0
  tn : NewFacts C tc t0
  t1 : Addr
  T1 : Meth C tc "compare" (pM 1 1).params (pM 1 1).scope (pM 1 1).body t1
  tm : MethFacts C tc "compare" t1
  lx : Addr
  lg : Glb C "_netrclex" (.ref lx)
  l0 : Addr
  L0 : Meth C lx "__init__" (pM 10 0).params (pM 10 0).scope (pM 10 0).body l0
  lnw : NewFacts C lx l0
  l2 : Addr
  l3 : Addr
  X : LexF C lx l2 l3
theorem nmF_ok : ∀ p < 33, PyData.strOk (nmF p) = true := by decide +kernel
theorem nmA_ok {low i : Nat} (hl : low < 28) (hi : i < 6) : PyData.strOk (nmA low i) = true := nmF_ok _ (by omega)
noncomputable def fd16 : Fd := ⟨(pT 16).scope, ["table", "owner", "lead", "gains", "order", "flags", "token", "rows", "best", "row", "ring", "inside", "whole", "cost", "caller", "name", "part"], [0, 1, 2, 3, 4, 5, 6, 7, 8, 9, 10, 11, 12], []⟩
theorem fd16_ok : fnB fd16 (pT 16).params [] = true := by kernel_rfl
structure Cl where
  oc : Addr
  tb : Nat
  ow : Nat
  ld : Nat
  ga : Nat
  od : Nat
noncomputable def tkR (x : Cl) (low m : Nat) (rows best ring inside whole : Option D) : Rho := [some (.loc x.tb), some (.loc x.ow), some (.loc x.ld), some (.loc x.ga), some (.loc x.od), some (.ds (flagsD low)), some (.str (tokA low m)), rows, best, none, ring, inside, whole, none, none, none, none]
noncomputable def rowOf (low : Nat) (g : Nat → Int) (u : Nat) : Int × Str := (g u, nmA low u)
noncomputable def rowsL (low m : Nat) (g : Nat → Int) : D := .lst ((outs m).map fun u => rowD (rowOf low g u))
noncomputable def foldU (less : Nat → Nat → Bool) (b : Nat) (l : List Nat) : Nat := l.foldl (fun b x => if less x b then x else b) b
theorem foldU_snoc (less : Nat → Nat → Bool) (b : Nat) (l : List Nat) (x : Nat) : foldU less b (l ++ [x]) = if less x (foldU less b l) then x else foldU less b l := List.foldl_append
theorem foldU_lt {less : Nat → Nat → Bool} : ∀ {l : List Nat} {b : Nat}, b < 6 → (∀ x ∈ l, x < 6) → foldU less b l < 6
  | [], b, h, _ => h
  | x :: l, b, h, hx => by
    show foldU less (if less x b then x else b) l < 6
    refine foldU_lt ?_ fun y m => hx y (.tail _ m)
    split
    · exact hx x (.head _)
    · exact h
section
variable {C : Cx} {A : Around} {env : Env} {x : Cl} {low m k u : Nat} {t : Int} {s : S2} {σ σ' : St} {g : Nat → Int} {d : D}
theorem tab_at (hl : low < 28) (K : ∀ p ∈ s.tab, p.1 < 64 ∧ p.1 ≠ 0) {m : Nat} (hm : m < 64) (h0 : m ≠ 0) (hg : aget s.tab m = some g) : kget (tabD low s.tab) (tokA low m) = some (.ds (intD (rowsD low m g))) := by
  have := kget_msk hl (fun m g => D.ds (intD (rowsD low m g))) hm h0 s.tab K
  rw [hg] at this
  exact this
theorem tab_set (hl : low < 28) {T : List (Nat × (Nat → Int))} (hm : m < 64) (h0 : m ≠ 0) (K : ∀ p ∈ T, p.1 < 64 ∧ p.1 ≠ 0) : kset (tabD low T) (tokA low m) (.ds (intD (rowsD low m g))) = tabD low (aset T m g) :=
  kset_msk hl (fun m g => D.ds (intD (rowsD low m g))) g hm h0 T K
theorem lead_set (hl : low < 28) {T : List (Nat × Nat)} (hm : m < 64) (h0 : m ≠ 0) (K : ∀ p ∈ T, p.1 < 64 ∧ p.1 ≠ 0) : kset (leadD low T) (tokA low m) (.str (nmA low u)) = leadD low (aset T m u) :=
  kset_msk hl (fun u0 u => D.str (nmA low u)) u hm h0 T K
noncomputable def tkB (i : Nat) : List Stmt := (pT 16).body.drop i
theorem tk_a (Q : Pr C) (hl : low < 28) (ht : t = 1 ∨ t = -1) (hx : x.oc = Q.tc) (c1 : σ[x.tb]? = some (.ds (tabD low s.tab))) (c5 : σ[x.od]? = some (.ins x.oc (tcF (ordD 2 t)))) (hkt : kget (tabD low s.tab) (tokA low m) = some (.ds (intD (rowsD low m g)))) (hne : outs m ≠ [])
    (h : TR (.fn C A 1 fd16 env) (tkR x low m (some (rowsL low m g)) (some (rowD (rowOf low g (bestU (lessR (prT t low) g) (outs m))))) none none none) (execs (tkB 3) env) σ d σ') :
    TR (.fn C A 1 fd16 env) (tkR x low m none none none none none) (execs (tkB 0) env) σ d σ' := by
  have h6 : (outs m).headD 0 < 6 := by
    cases he : outs m with
    | nil => exact absurd he hne
    | cons a l => exact outs_lt a (by rw [he]; exact .head _)
  refine TR_cons (TS_lm 7 [13, 14] (fun u => .tup [.str (nmA low u), .int (g u)]) (fun u => rowD (rowOf low g u)) (outs m) (TI_items (TE_idx (tv 0 rfl) (tv 6 rfl) (idx_ds (.o c1) hkt))) (by rw [rows_intD, List.map_map]; rfl) (Nat.le_trans (outs_len m) (by decide))
    (fun cenv u hu => ⟨.t (.cons (i := 14) rfl rfl (.cons (i := 13) rfl rfl (.nil _))), (Le.set rfl).trans (.set rfl), TE_tuple (a2 (tv 13 rfl) (tv 14 rfl)) (Nat.le_of_ble_eq_true rfl)⟩) rfl rfl) ?_
  refine TR_cons (TS_asg (i := 8) (TE_idx (tv 7 rfl) TE_int (idx_lst (j := 0) (d := rowD (rowOf low g ((outs m).headD 0))) (.z _) (by cases he : outs m with
    | nil => exact absurd he hne
    | cons a l => rfl) (by decide))) rfl rfl rfl) ?_
  refine TR_cons (TS_for (TI_of (tv 7 rfl) iter_lst) (Run.scan0 (R := fun l => tkR x low m (some (rowsL low m g)) (some (rowD (rowOf low g (foldU (lessR (prT t low) g) ((outs m).headD 0) l)))) none none none) (S := fun u0 => σ) (outs m) rfl fun done u todo e => ?_)) h
  have hu : u < 6 := outs_lt u (by rw [e]; exact List.mem_append_right _ (.head _))
  have hb : foldU (lessR (prT t low) g) ((outs m).headD 0) done < 6 := foldU_lt h6 fun y my => outs_lt y (by rw [e]; exact List.mem_append_left _ my)
  have hc := cmp_less hl ht g hu hb
  rw [foldU_snoc]
  generalize foldU (lessR (prT t low) g) ((outs m).headD 0) done = b at hc
  cases hq : lessR (prT t low) g u b with
  | true =>
    exact ⟨_, _, .v (i := 9) rfl rfl, .inl rfl, TS_cons (TS_if_t (TB.to (TB_cmp (TE_mcall (compare_fn Q.G Q.T1 Q.ti 2 t (rowOf low g u) (rowOf low g b) (hx ▸ c5)) (Nat.le_refl _) Q.tm Q.T1.isFn rfl (tv 4 rfl) (hx ▸ c5) (by kernel_rfl) (a2 (tv 9 rfl) (tv 8 rfl))) TE_int cmp_lt rfl) (hc.trans hq))
      (TS_cons (TS_asg (i := 8) (tv 9 rfl) rfl rfl rfl) TS_nil)) (TS_nilf [9])⟩
  | false =>
    exact ⟨_, _, .v (i := 9) rfl rfl, .inl rfl, TS_cons (TS_if_f (TB.to (TB_cmp (TE_mcall (compare_fn Q.G Q.T1 Q.ti 2 t (rowOf low g u) (rowOf low g b) (hx ▸ c5)) (Nat.le_refl _) Q.tm Q.T1.isFn rfl (tv 4 rfl) (hx ▸ c5) (by kernel_rfl) (a2 (tv 9 rfl) (tv 8 rfl))) TE_int cmp_lt rfl) (hc.trans hq)) TS_nil) (TS_nilf [9])⟩
theorem eqv_self {i : Int} {x : Str} : PyData.eqv (.list [.tuple [.int i, .str x]]) (.list [.tuple [.int i, .str x]]) = true := by
  simp only [PyData.eqv, PyData.eqvAll, BEq.rfl, Bool.and_self]
theorem shaped_row {i : Int} {x : Str} (h : PyData.strOk x = true) : SeqAt.shaped (.list [.tuple [.int i, .str x]]) = true := by
  simp [SeqAt.shaped, PyData.canLay0, PyData.canLayAll0, PyData.depth, PyData.depthAll, h]
theorem rows_sub (hl : low < 28) : addC (rowsD low m g) ((outs m).map fun y => (nmA low y, -g u)) = rowsD low m fun y => g y - g u := by
  rw [rowsD, addC_go hl (outs m) outs_lt (outs_nodup m) (-g u) (outs m) g (fun u0 h => h) (outs_nodup m)]
  exact List.map_congr_left fun y hy => by rw [if_pos hy]; rfl
theorem sub_fn (Q : Pr C) (hl : low < 28) : FnTo C 1 Q.a3 [.ds (intD (rowsD low m g)), .ds ((outs m).map fun y => (nmA low y, .int (-g u)))] σ (.ds (intD (rowsD low m fun y => g y - g u))) (σ ++ [.dead]) := by
  have := addc_fn (σ := σ) Q.G Q.F3 (rowsD low m g) ((outs m).map fun y => (nmA low y, -g u)) (by rw [rowsD, List.map_map]; exact nm_nodup hl outs_lt (outs_nodup m)) (by rw [rowsD, List.length_map, List.length_map]; have := outs_len m; omega)
  rw [rows_sub hl, show intD ((outs m).map fun y => (nmA low y, -g u)) = (outs m).map fun y => (nmA low y, .int (-g u)) by rw [intD, mapD, List.map_map]; rfl] at this
  exact this
theorem tk_b (Q : Pr C) (hl : low < 28) (ht : t = 1 ∨ t = -1) (hx : x.oc = Q.tc) (nd : [x.tb, x.ow, x.ld, x.ga, x.od].Nodup) (Ct : CL low x.oc x.tb x.ow x.ld x.ga x.od t s σ) (K : KO s) (hm : m < 64) (h0 : m ≠ 0) (hg : aget s.tab m = some g) (hu : u ∈ outs m) (hle : ∀ y ∈ outs m, y ≠ u → lessR (prT t low) g u y = true) (hgl : s.gains.length ≤ 1000) (htl : s.tab.length ≤ 1000) (hll : s.lead.length ≤ 1000)
    (h : TR (.fn C A 1 fd16 env) (tkR x low m (some (rowsL low m g)) (some (rowD (rowOf low g u))) none none none) (execs (tkB 6) env) (((σ.set x.ga (.lst (gainsD low (s.gains ++ [(m, g u)]))) ++ [AO.dead]).set x.tb (.ds (tabD low (aset s.tab m fun y => g y - g u)))).set x.ld (.ds (leadD low (aset s.lead m u)))) d σ') :
    TR (.fn C A 1 fd16 env) (tkR x low m (some (rowsL low m g)) (some (rowD (rowOf low g u))) none none none) (execs (tkB 3) env) σ d σ' := by
  have hu6 := outs_lt u hu
  have hok := nmA_ok hl hu6
  have hf : ((outs m).filter fun y => decide (y = u)).map (fun y => rowD (rowOf low g y)) = [rowD (rowOf low g u)] := by rw [filter_eq_one (outs_nodup m) hu]; rfl
  refine TR_cons (TS.st (TS_ex (TE_append Ct.c4 Ct.c4 (by rw [gainsD, List.length_map]; exact Nat.le_trans hgl (by decide)) (tv 3 rfl) (a1 (TE_tuple (ac (tv 6 rfl) (ac (TE_idx (tv 8 rfl) TE_int idx_t0) (a1 (TE.val (TE_cmp (TP.rest made_L (TP_lf [9] (fun y => rowD (rowOf low g y)) (fun y => rowD (rowOf low g y)) (fun y => decide (y = u)) (outs m) (TI_of (tv 7 rfl) iter_lst) rfl (Nat.le_trans (outs_len m) (by decide))
    fun cenv y hy => ⟨.v (i := 9) rfl rfl, .set rfl, TT_one (TB.to (TB_cmp (TE_mcall (compare_fn Q.G Q.T1 Q.ti 2 t (rowOf low g y) (rowOf low g u) (hx ▸ Ct.c5)) (Nat.le_refl _) Q.tm Q.T1.isFn rfl (tv 4 rfl) (hx ▸ Ct.c5) (by kernel_rfl) (a2 (tv 9 rfl) (tv 8 rfl))) TE_int cmp_le rfl) (cmpR_le hl ht g (outs_lt y hy) hu6 (hle y hy))), fun u0 => tv 9 rfl⟩)) (TE_list (a1 (tv 8 rfl)) (Nat.le_of_ble_eq_true rfl)) (cmp_eqd (p := .list [.tuple [.int (g u), .str (nmA low u)]]) (by rw [hf]; exact rd_lst (.z _) (rdL_cons (rd_tup (rdL_cons rd_int (rdL_cons rd_str rdL_nil))) rdL_nil)) (rd_lst (.z _) (rdL_cons (rd_tup (rdL_cons rd_int (rdL_cons rd_str rdL_nil))) rdL_nil)) (shaped_row hok) (shaped_row hok)) rfl) (congrArg D.bool eqv_self))))) (Nat.le_of_ble_eq_true rfl))))) (σ₂ := σ.set x.ga (.lst (gainsD low (s.gains ++ [(m, g u)])))) (by unfold gainsD; rw [List.map_append]; rfl)) ?_
  have C1 := CL.gains nd Ct (s.gains ++ [(m, g u)])
  have hkt := tab_at hl K.tab hm h0 hg
  refine TR_cons (TS.st (TS_seti (d := .ds (intD (rowsD low m fun y => g y - g u))) (call Q.F3 (sub_fn Q hl) (a2 (TE_idx (tv 0 rfl) (tv 6 rfl) (idx_ds (.o C1.c1) hkt)) (TP.rest made_D (TP_dm [14] (fun y => .str (nmA low y)) (fun u0 => .int (-g u)) (nmA low) (outs m) (TI_of (TE_idx (tv 0 rfl) (tv 6 rfl) (idx_ds (.o C1.c1) hkt)) iter_keys) (by rw [rows_intD, List.map_map]; rfl) (Nat.le_trans (outs_len m) (by decide)) (nm_nodup hl outs_lt (outs_nodup m)) fun cenv y hy => ⟨.v (i := 14) rfl rfl, .set rfl, TT_nil, fun u0 => ⟨tv 14 rfl, TE_neg (TE_idx (tv 8 rfl) TE_int idx_t0)⟩⟩)))) (tv 0 rfl) (tv 6 rfl) (at_app C1.c1) (by rw [tabD, List.length_map]; exact Nat.le_trans htl (by decide))) (congrArg (fun l => List.set _ _ (AO.ds l)) (tab_set hl hm h0 K.tab))) ?_
  have C2 := CL.tab nd (C1.app [AO.dead]) (aset s.tab m fun y => g y - g u)
  exact TR_cons (TS.st (TS_seti (TE_idx (tv 8 rfl) TE_int idx_t1) (tv 2 rfl) (tv 6 rfl) C2.c3 (by rw [leadD, List.length_map]; exact Nat.le_trans hll (by decide))) (congrArg (fun l => List.set _ _ (AO.ds l)) (lead_set hl hm h0 K.lead))) h
end
end Mine
end
section
open PySem PySem.W PyProof.Rows
namespace Mine
open E2
noncomputable def whT (s : Stmt) : Expr := (prt s).e
noncomputable def whB (s : Stmt) : List Stmt := (prt s).b
noncomputable def tkW : Stmt := (pT 16).body.getD 7 (.Pass default)
noncomputable def tkD (low : Nat) (l : List Nat) : List D := l.map fun p => .str (tokA low p)
theorem aget_in {α β : Type} [DecidableEq α] {P : β → Prop} {k : α} {u : β} : ∀ {l : List (α × β)}, (∀ p ∈ l, P p.2) → aget l k = some u → P u
  | (a, b) :: l, h1, h2 => by
    have h2 : (if a = k then some b else aget l k) = some u := h2
    by_cases e : a = k
    · rw [if_pos e] at h2; cases h2; exact h1 (a, u) (.head _)
    · rw [if_neg e] at h2; exact aget_in (fun q m => h1 q (.tail _ m)) h2
section
variable {C : Cx} {A : Around} {env : Env} {x : Cl} {low m k u X : Nat} {σ σ' : St} {d : D} {own : Nat → Nat} {lead : List (Nat × Nat)} {K : Ctx} {ρ : Rho}
theorem own_at (hl : low < 28) {i : Nat} (hi : i < 6) : kget (ownD low own) (nmA low i) = some (.str (tokA low (own i))) :=
  (kget_blk hl (fun i => .str (tokA low (own i))) hi (List.range 6) (fun j h => List.mem_range.mp h)).trans (if_pos (List.mem_range.mpr hi))
theorem lead_at (hl : low < 28) (K : ∀ p ∈ lead, p.1 < 64 ∧ p.1 ≠ 0) {m : Nat} (hm : m < 64) (h0 : m ≠ 0) : kget (leadD low lead) (tokA low m) = (aget lead m).map fun u => .str (nmA low u) :=
  kget_msk hl (fun u0 u => D.str (nmA low u)) hm h0 lead K
theorem zTE {a b c : Expr} {p p' : Pos} (hl : low < 28) (c2 : σ[x.ow]? = some (.ds (ownD low own))) (c3 : σ[x.ld]? = some (.ds (leadD low lead))) (Kl : ∀ p ∈ lead, p.1 < 64 ∧ p.1 ≠ 0) (hX : X < 64) (hX0 : X ≠ 0) (hu : aget lead X = some u) (hu6 : u < 6)
    (ho : TE K ρ (eval a K.env) σ (.loc x.ow) σ) (hd : TE K ρ (eval b K.env) σ (.loc x.ld) σ) (hr : TE K ρ (eval c K.env) σ (.str (tokA low X)) σ) : TE K ρ (eval (.Subscript a (.Subscript b c p) p') K.env) σ (.str (tokA low (nx own lead X))) σ := by
  have h1 := lead_at hl Kl hX hX0
  rw [hu] at h1
  rw [show nx own lead X = own u by unfold nx; rw [hu]; rfl]
  exact TE_idx ho (TE_idx hd hr (idx_ds (.o c3) h1)) (idx_ds (.o c2) (own_at hl hu6))
theorem tok_ne (hl : low < 28) {Y : Nat} (hY : Y < 64) (hY0 : Y ≠ 0) (hm : m < 64) (h0 : m ≠ 0) : (!(tokA low Y == tokA low m)) = (Y != m) := by
  by_cases e : Y = m
  · rw [e, BEq.rfl, bne_self_eq_false]; rfl
  · rw [beq_eq_false_iff_ne.mpr fun z => e (tok_inj hl hY hm hY0 h0 z), bne_iff_ne.mpr e]; rfl
theorem tk_w (hl : low < 28) (c2 : σ[x.ow]? = some (.ds (ownD low own))) (c3 : σ[x.ld]? = some (.ds (leadD low lead))) (Kl : ∀ p ∈ lead, p.1 < 64 ∧ p.1 ≠ 0) (K6 : ∀ p ∈ lead, p.2 < 6) (KO : ∀ i < 6, own i < 64 ∧ own i ≠ 0) (hm : m < 64) (h0 : m ≠ 0) {rows best : Option D} :
    ∀ (k : Nat) (X : Nat) (pre : List Nat), X < 64 → X ≠ 0 → (aget lead X).isSome = true → (chase own lead m k X).length < k → pre.length + k ≤ 2000 →
    WRun (.fn C A 1 fd16 env) (whT tkW) (whB tkW) k (tkR x low m rows best (some (.loc σ.length)) none none) (σ ++ [.lst (tkD low (pre ++ [X]))]) (tkR x low m rows best (some (.loc σ.length)) none none) (σ ++ [.lst (tkD low (pre ++ X :: chase own lead m k X))])
  | 0, X, pre, _, _, _, h, _ => absurd h (Nat.not_lt_zero _)
  | k + 1, X, pre, hX, hX0, hs, hk, hp => by
    obtain ⟨u, hu⟩ := Option.isSome_iff_exists.mp hs
    have hu6 : u < 6 := aget_in (P := fun v => v < 6) K6 hu
    have hz := fun (a b c : Expr) (p p' : Pos) => zTE (K := .fn C A 1 fd16 env) (ρ := tkR x low m rows best (some (.loc σ.length)) none none) (σ := σ ++ [.lst (tkD low (pre ++ [X]))]) (a := a) (b := b) (c := c) (p := p) (p' := p') hl (at_app c2) (at_app c3) Kl hX hX0 hu hu6
    have hY : nx own lead X = own u := by unfold nx; rw [hu]; rfl
    have hl0 : pre.length < 2 ^ 62 := by omega
    have hL : (σ ++ [AO.lst (tkD low (pre ++ [X]))])[σ.length]? = some (.lst (tkD low pre ++ [.str (tokA low X)])) := by rw [at_len, tkD, List.map_append]; rfl
    have hlen : (tkD low pre).length < 2 ^ 62 := by rw [tkD, List.length_map]; exact hl0
    obtain ⟨hY1, hY2⟩ := KO u hu6
    rw [← hY] at hY1 hY2
    have e1 : (kget (leadD low lead) (tokA low (nx own lead X))).isSome = (aget lead (nx own lead X)).isSome := by rw [lead_at hl Kl hY1 hY2]; exact Option.isSome_map
    have e2 := tok_ne hl hY1 hY2 hm h0
    have ht : ∀ {q}, ((aget lead (nx own lead X)).isSome && nx own lead X != m) = q → TB (.fn C A 1 fd16 env) (tkR x low m rows best (some (.loc σ.length)) none none) (isTrue (whT tkW) env (eval (whT tkW) env)) (σ ++ [.lst (tkD low (pre ++ [X]))]) q (σ ++ [.lst (tkD low (pre ++ [X]))]) := fun h => TB.to (TB_boolop (TB_and (TB_cmp (hz _ _ _ _ _ (tv 1 rfl) (tv 2 rfl) (TE_idx (tv 10 rfl) (TE_neg TE_int) (idx_last (.o hL) hlen))) (tv 2 rfl) (cmp_ind (.o (at_app c3))) rfl)
      (TB_and (TB_cmp (hz _ _ _ _ _ (tv 1 rfl) (tv 2 rfl) (TE_idx (tv 10 rfl) (TE_neg TE_int) (idx_last (.o hL) hlen))) (tv 6 rfl) cmp_nes rfl) TB_and_nil))) (by rw [e1, e2, Bool.and_true]; exact h)
    by_cases hc : ((aget lead (nx own lead X)).isSome && nx own lead X != m) = true
    · have hch : chase own lead m (k + 1) X = nx own lead X :: chase own lead m k (nx own lead X) := if_pos hc
      rw [hch] at hk ⊢
      have ih := tk_w hl c2 c3 Kl K6 KO hm h0 (rows := rows) (best := best) k (nx own lead X) (pre ++ [X]) hY1 hY2 (Bool.and_eq_true_iff.mp hc).1 (Nat.lt_of_succ_lt_succ hk) (by rw [List.length_append]; show pre.length + 1 + k ≤ 2000; omega)
      rw [show (pre ++ [X]) ++ nx own lead X :: chase own lead m k (nx own lead X) = pre ++ X :: nx own lead X :: chase own lead m k (nx own lead X) from List.append_assoc ..] at ih
      exact .next (ht hc) (TS_cons (TS.st (σ₂ := σ ++ [.lst (tkD low (pre ++ [X] ++ [nx own lead X]))]) (TS_ex (TE_append hL hL (Nat.le_of_lt (by rw [List.length_append, tkD, List.length_map]; show pre.length + 1 < _; omega)) (tv 10 rfl) (a1 (hz _ _ _ _ _ (tv 1 rfl) (tv 2 rfl) (TE_idx (tv 10 rfl) (TE_neg TE_int) (idx_last (.o hL) hlen)))))) (set_len.trans (by unfold tkD; rw [List.map_append, List.map_append]; rfl))) TS_nil) ih
    · have hch : chase own lead m (k + 1) X = [] := if_neg hc
      rw [hch]
      exact .done (ht (Bool.eq_false_iff.mpr hc))
end
end Mine
end
section
open PySem PySem.W PyProof.Rows
namespace Mine
open E2
section
variable {C : Cx} {A : Around} {env : Env} {x : Cl} {low m k u X : Nat} {σ σ' : St} {d : D} {own : Nat → Nat} {lead : List (Nat × Nat)} {K : Ctx} {ρ : Rho} {rows best : Option D} {rg : List Nat} {T : List (Nat × (Nat → Int))}
theorem tk_c (hl : low < 28) (c2 : σ[x.ow]? = some (.ds (ownD low own))) (c3 : σ[x.ld]? = some (.ds (leadD low lead))) (Kl : ∀ p ∈ lead, p.1 < 64 ∧ p.1 ≠ 0) (K6 : ∀ p ∈ lead, p.2 < 6) (KO : ∀ i < 6, own i < 64 ∧ own i ≠ 0) (hm : m < 64) (h0 : m ≠ 0) (hs : (aget lead m).isSome = true) (hk : (chase own lead m 1000 m).length < 1000)
    (h : TR (.fn C A 1 fd16 env) (tkR x low m rows best (some (.lst (tkD low (m :: chase own lead m 1000 m)))) none none) (execs (tkB 8) env) (σ ++ [.dead]) d σ') : TR (.fn C A 1 fd16 env) (tkR x low m rows best none none none) (execs (tkB 6) env) σ d σ' :=
  TR_cons (TS_asg (i := 10) ((TP_list (a1 (tv 6 rfl)) (Nat.le_of_ble_eq_true rfl)).loc made_L) rfl rfl rfl) (TR_cons (TS_while (tk_w (A := A) (env := env) hl c2 c3 Kl K6 KO hm h0 1000 m [] hm h0 hs hk (by decide))) (TR.frz 10 rfl at_len (.lst _) (by rw [set_len]; exact h)))
theorem tk_test (hl : low < 28) (c2 : σ[x.ow]? = some (.ds (ownD low own))) (c3 : σ[x.ld]? = some (.ds (leadD low lead))) (Kl : ∀ p ∈ lead, p.1 < 64 ∧ p.1 ≠ 0) (KO : ∀ i < 6, own i < 64 ∧ own i ≠ 0) (hm : m < 64) (h0 : m ≠ 0) {pre : List Nat} (hp : pre.length ≤ 1000) (hX : X < 64) (hX0 : X ≠ 0) (hu : aget lead X = some u) (hu6 : u < 6) {a b c e : Expr} {p p' p'' : Pos} {whole : Sem Value}
    (ha : TE K ρ (eval a K.env) σ (.loc x.ow) σ) (hb : TE K ρ (eval b K.env) σ (.loc x.ld) σ) (hc : TE K ρ (eval c K.env) σ (.str (tokA low X)) σ) (he : TE K ρ (eval e K.env) σ (.str (tokA low m)) σ) (hm' : behindInMarks .NotEq e = false) : TB K ρ (isTrue (.Compare (.Subscript a (.Subscript b c p) p') [.NotEq] [e] p'') K.env whole) σ (nx own lead X != m) σ := by
  have hY : nx own lead X = own u := by unfold nx; rw [hu]; rfl
  obtain ⟨hY1, hY2⟩ := KO u hu6
  rw [← hY] at hY1 hY2
  exact TB.to (TB_cmp (zTE hl c2 c3 Kl hX hX0 hu hu6 ha hb hc) he cmp_nes hm') (tok_ne hl hY1 hY2 hm h0)
theorem tk_stop (hl : low < 28) (c2 : σ[x.ow]? = some (.ds (ownD low own))) (c3 : σ[x.ld]? = some (.ds (leadD low lead))) (Kl : ∀ p ∈ lead, p.1 < 64 ∧ p.1 ≠ 0) (KO : ∀ i < 6, own i < 64 ∧ own i ≠ 0) (hm : m < 64) (h0 : m ≠ 0) {pre : List Nat} (hp : pre.length ≤ 1000) (hX : X < 64) (hX0 : X ≠ 0) (hu : aget lead X = some u) (hu6 : u < 6) (hf : nx own lead X ≠ m) :
    TR (.fn C A 1 fd16 env) (tkR x low m rows best (some (.lst (tkD low pre ++ [.str (tokA low X)]))) none none) (execs (tkB 8) env) σ (.lst []) σ :=
  TR_stop (TR_if_t (TB.to (tk_test (pre := pre) hl c2 c3 Kl KO hm h0 hp hX hX0 hu hu6 (tv 1 rfl) (tv 2 rfl) (TE_idx (tv 10 rfl) (TE_neg TE_int) (idx_last (.z _) (by rw [tkD, List.length_map]; omega))) (tv 6 rfl) rfl) (bne_iff_ne.mpr hf)) (TR_stop (TR_ret (TE_list an (Nat.zero_le _)))))
theorem ins_fn (Q : Pr C) (hl : low < 28) (hne : insL own rg ≠ []) : FnTo C 1 Q.a7 [.int (valF ((insL own rg).map (low + ·)) : Nat)] σ (.str (tokA low (whole own rg))) (σ ++ [.dead]) := by
  have := pretty_fn (σ := σ) Q.G Q.fl Q.F7 ((insL own rg).map (low + ·)) (fun p hp => by
    obtain ⟨i, hi, rfl⟩ := List.mem_map.mp hp
    have := insL_lt i hi
    show low + i < 33
    omega) (List.pairwise_map.mpr ((List.Pairwise.filter _ List.pairwise_lt_range).imp fun h => Nat.add_lt_add_left h _)) (fun e => hne (List.map_eq_nil_iff.mp e)) (by have := insL_len own rg; rw [List.length_map]; omega)
  rwa [show Txt.join sComma (((insL own rg).map (low + ·)).map nmF) = tokA low (whole own rg) by unfold tokA whole; rw [bits_mkM, List.map_map]; rfl] at this
theorem rows_whole (F : Nat → Int) : ((List.range 6).filter fun y => !(insL own rg).contains y).map (fun y => (nmA low y, D.int (F y))) = intD (rowsD low (whole own rg) F) := by
  rw [rows_intD]
  unfold whole
  rw [outs_mkM]
  refine congrArg _ (List.filter_congr fun i hi => congrArg not ?_)
  rw [Bool.eq_iff_iff, List.contains_iff_mem]
  unfold insL
  rw [List.mem_filter]
  exact ⟨fun h => h.2, fun h => ⟨hi, h⟩⟩
theorem own_set (hl : low < 28) (W : Nat) : ksets (ownD low own) ((insL own rg).map fun i => (nmA low i, .str (tokA low W))) = ownD low fun i => if rg.contains (own i) then W else own i := by
  unfold ksets ownD
  rw [kset_fold hl (.str (tokA low W)) (insL own rg) (List.range 6) _ (fun j h => List.mem_range.mp h) List.nodup_range (fun i h => (List.mem_filter.mp h).1)]
  refine List.map_congr_left fun i hi => congrArg (Prod.mk (nmA low i)) ?_
  show _ = D.str (tokA low (if rg.contains (own i) = true then W else own i))
  by_cases h : rg.contains (own i) = true
  · rw [if_pos h, if_pos (show i ∈ insL own rg from List.mem_filter.mpr ⟨hi, h⟩)]
  · rw [if_neg h, if_neg fun z : i ∈ insL own rg => h (List.mem_filter.mp z).2]
theorem min_mem {l : List Int} (h : l ≠ []) : minOf l ∈ l ∧ ∀ y ∈ l, minOf l ≤ y := ⟨minOf_mem h, fun u0 m => minOf_le m⟩
theorem tk_go (Q : Pr C) (hl : low < 28) (c1 : σ[x.tb]? = some (.ds (tabD low T))) (c2 : σ[x.ow]? = some (.ds (ownD low own))) (c3 : σ[x.ld]? = some (.ds (leadD low lead))) (hto : x.tb ≠ x.ow) (KT : ∀ p ∈ T, p.1 < 64 ∧ p.1 ≠ 0) (Kl : ∀ p ∈ lead, p.1 < 64 ∧ p.1 ≠ 0) (KO : ∀ i < 6, own i < 64 ∧ own i ≠ 0) (hm : m < 64) (h0 : m ≠ 0) {pre : List Nat} (hp : pre.length ≤ 1000) (hX : X < 64) (hX0 : X ≠ 0) (hu : aget lead X = some u) (hu6 : u < 6) (hf : nx own lead X = m)
    (hrg : rg = pre ++ [X]) (hr : ∀ p ∈ rg, p < 64 ∧ p ≠ 0) (hrt : ∀ p ∈ rg, ∃ g, aget T p = some g ∧ ∀ y < 6, y ∉ insL own rg → p.testBit y = false) (hne : insL own rg ≠ []) (hW : whole own rg ≠ 0) (htl : T.length ≤ 1000) :
    TR (.fn C A 1 fd16 env) (tkR x low m rows best (some (.lst (tkD low rg))) none none) (execs (tkB 8) env) σ (.lst [.str (tokA low (whole own rg))])
      (((σ ++ [AO.dead]).set x.tb (.ds (tabD low (aset T (whole own rg) fun y => minOf (rg.map fun p => tabF T p y))))).set x.ow (.ds (ownD low fun i => if rg.contains (own i) then whole own rg else own i))) := by
  have hrr : tkD low rg = tkD low pre ++ [.str (tokA low X)] := by rw [hrg, tkD, List.map_append]; rfl
  have iz : IsL σ (.lst (tkD low rg)) (tkD low pre ++ [.str (tokA low X)]) := by rw [hrr]; exact .z _
  have hpl : (tkD low pre).length < 2 ^ 62 := by unfold tkD; rw [List.length_map]; omega
  refine TR_cons (TS_if_f (TB.to (tk_test (pre := pre) hl c2 c3 Kl KO hm h0 hp hX hX0 hu hu6 (tv 1 rfl) (tv 2 rfl) (TE_idx (tv 10 rfl) (TE_neg TE_int) (idx_last iz hpl)) (tv 6 rfl) rfl) (by rw [hf]; exact bne_self_eq_false _)) TS_nil) ?_
  have hrs : tkD low rg = (rg.map (tokA low)).map .str := by rw [tkD, List.map_map]; rfl
  have izs : ∀ {σ : St}, IsL σ (.lst (tkD low rg)) ((rg.map (tokA low)).map .str) := by intro σ; rw [hrs]; exact .z _
  have hfl : (flagsD low).map (fun p => D.str p.1) = (List.range 6).map fun i => .str (nmA low i) := by rw [flagsD, List.map_map]; rfl
  refine TR_cons (TS_lf0 11 [15] (fun i => .str (nmA low i)) (fun i => .str (nmA low i)) (fun i => rg.contains (own i)) (List.range 6) (TI_of (tv 5 rfl) iter_keys) hfl (by decide) (fun cenv i hi => ⟨.v (i := 15) rfl rfl, .set rfl, TT_one (TB.to (TB_cmp (TE_idx (tv 1 rfl) (tv 15 rfl) (idx_ds (.o c2) (own_at hl (List.mem_range.mp hi)))) (tv 10 rfl) (cmp_inl (ss := rg.map (tokA low)) izs) rfl) (has_tok hl (KO i (List.mem_range.mp hi)).1 (KO i (List.mem_range.mp hi)).2 hr)), fun u0 => tv 15 rfl⟩) rfl rfl) ?_
  have hsm : ((insL own rg).map fun i => D.int ((2 ^ (low + i) : Nat) : Int)) = (((insL own rg).map (low + ·)).map fun p => ((2 ^ p : Nat) : Int)).map .int := by rw [List.map_map, List.map_map]; rfl
  refine TR_cons (TS_asg (i := 12) (call Q.F7 (ins_fn Q hl hne) (a1 (TE.val (TE_bi Q.G.sum (by kernel_rfl) rfl rfl (a1 (TP.rest made_L (TP_lm [15] (fun i => .str (nmA low i)) (fun i => .int ((2 ^ (low + i) : Nat) : Int)) (insL own rg) (TI_of (tv 11 rfl) iter_lst) rfl (Nat.le_trans (insL_len own rg) (by decide)) fun cenv i hi => ⟨.v (i := 15) rfl rfl, .set rfl, TE_idx (tv 5 rfl) (tv 15 rfl) (idx_ds (.z _) (flags_at hl (insL_lt i hi)))⟩))) fun q r => bi_sum (ns := ((insL own rg).map (low + ·)).map fun p => ((2 ^ p : Nat) : Int)) (by rw [← hsm]; exact .z _) q.o.room.handled q.I r) (congrArg D.int (valF_int _))))) rfl rfl rfl) ?_
  have c1' := at_app (b := AO.dead) c1
  have hmt : ∀ p ∈ rg, ∀ y < 6, y ∉ insL own rg → kget (tabD low T) (tokA low p) = some (.ds (intD (rowsD low p (tabF T p)))) ∧ kget (intD (rowsD low p (tabF T p))) (nmA low y) = some (.int (tabF T p y)) := fun p hp y hy hn => by
    obtain ⟨g, h1, h2⟩ := hrt p hp
    have e : tabF T p = g := by unfold tabF; rw [h1]; rfl
    rw [e, rows_intD, kget_blk hl (fun i => .int (g i)) hy _ outs_lt, if_pos (outs_mem.mpr ⟨hy, h2 y hy hn⟩), ← rows_intD]
    exact ⟨tab_at (s := ⟨T, own, lead, []⟩) hl KT (hr p hp).1 (hr p hp).2 h1, rfl⟩
  have hrn : rg ≠ [] := by rw [hrg]; exact List.append_ne_nil_of_right_ne_nil _ (List.cons_ne_nil _ _)
  have hrl : rg.length ≤ 1001 := by rw [hrg, List.length_append]; exact Nat.succ_le_succ hp
  have hib : ∀ y < 6, ((insL own rg).map (nmA low)).any (· == nmA low y) = (insL own rg).contains y := fun y hy => has_blk hl hy insL_lt
  have hins : ((insL own rg).map fun i => D.str (nmA low i)) = ((insL own rg).map (nmA low)).map .str := by rw [List.map_map]; rfl
  refine TR_cons (TS.st (σ₂ := (σ ++ [AO.dead]).set x.tb (.ds (tabD low (aset T (whole own rg) fun y => minOf (rg.map fun p => tabF T p y))))) (TS_seti (TP.rest made_D (TP_df [14] (fun y => .str (nmA low y)) (fun y => .int (minOf (rg.map fun p => tabF T p y))) (nmA low) (fun y => !(insL own rg).contains y) (List.range 6) (TI_of (tv 5 rfl) iter_keys) hfl (by decide) ((nm_nodup hl (fun j h => List.mem_range.mp h) List.nodup_range).sublist (List.Sublist.map _ List.filter_sublist)) fun cenv y hy =>
    ⟨.v (i := 14) rfl rfl, .set rfl, TT_one (TB.to (TB_cmp (tv 14 rfl) (tv 11 rfl) (cmp_ninl (ss := (insL own rg).map (nmA low)) (hins ▸ .z _)) rfl) (congrArg not (hib y (List.mem_range.mp hy)))), fun hq => ⟨tv 14 rfl, TE_bi Q.G.min (by kernel_rfl) rfl rfl (a1 (TP.rest made_L (TP_lm [16] (fun p => .str (tokA low p)) (fun p => .int (tabF T p y)) rg (TI_of (tv 10 rfl) iter_lst) rfl (Nat.le_trans hrl (by decide)) fun cenv' p hp =>
      ⟨.v (i := 16) rfl rfl, .set rfl, TE_idx (TE_idx (tv 0 rfl) (tv 16 rfl) (idx_ds (.o c1') (hmt p hp y (List.mem_range.mp hy) (fun z => by rw [List.contains_iff_mem.mpr z] at hq; cases hq)).1)) (tv 14 rfl) (idx_ds (.z _) (hmt p hp y (List.mem_range.mp hy) (fun z => by rw [List.contains_iff_mem.mpr z] at hq; cases hq)).2)⟩)))
      fun q r => bi_min (ns := rg.map fun p => tabF T p y) (by rw [List.map_map]; exact .z _) (min_mem (fun e => hrn (List.map_eq_nil_iff.mp e))).1 (min_mem (fun e => hrn (List.map_eq_nil_iff.mp e))).2 q.o.room.handled q.I r⟩⟩)) (tv 0 rfl) (tv 12 rfl) c1' (by unfold tabD; rw [List.length_map]; exact Nat.le_trans htl (by decide))) ?_) ?_
  · rw [rows_whole, tab_set (m := whole own rg) hl (mkM_lt _) hW KT]
  have c2' : ((σ ++ [AO.dead]).set x.tb (.ds (tabD low (aset T (whole own rg) fun y => minOf (rg.map fun p => tabF T p y)))))[x.ow]? = some (.ds (ownD low own)) := (List.getElem?_set_ne hto).trans (at_app c2)
  refine TR_cons (TS.st (TS_ex (TE_update c2' c2' (by have := insL_len own rg; rw [ownD, List.length_map, List.length_map]; show 6 + _ ≤ _; omega) (tv 1 rfl) (a1 (TP.rest made_D (TP_dm [15] (fun i => .str (nmA low i)) (fun i => .str (tokA low (whole own rg))) (nmA low) (insL own rg) (TI_of (tv 11 rfl) iter_lst) rfl (Nat.le_trans (insL_len own rg) (by decide)) (nm_nodup hl insL_lt (insL_nodup own rg)) fun cenv i hi => ⟨.v (i := 15) rfl rfl, .set rfl, TT_nil, fun u0 => ⟨tv 15 rfl, tv 12 rfl⟩⟩))))) (congrArg (fun l => List.set _ _ (AO.ds l)) (own_set hl _))) ?_
  exact TR_stop (TR_ret (TE_list (a1 (tv 12 rfl)) (Nat.le_of_ble_eq_true rfl)))
end
end Mine
end
section
open PySem PySem.W PyProof.Rows
namespace Mine
open E2
theorem lst_mem : ∀ (r : List Nat) (X : Nat), lst X r ∈ X :: r
  | [], X => .head _
  | Y :: r, X => .tail _ (lst_mem r Y)
theorem lst_last : ∀ (r : List Nat) (X : Nat), X :: r = (X :: r).dropLast ++ [lst X r]
  | [], X => rfl
  | Y :: r, X => congrArg (X :: ·) (lst_last r Y)
theorem cps {P : Prop} (h : ∀ G : Prop, (P → G) → G) : P := h P id
inductive TkO (C : Cx) (a16 : Addr) (x : Cl) (low m : Nat) (t : Int) (s : S2) (r : S2 × List Nat) (σ : St) : Prop
  | mk (σ' : St) (f : FnTo C 2 a16 [.loc x.tb, .loc x.ow, .loc x.ld, .loc x.ga, .loc x.od, .ds (flagsD low), .str (tokA low m)] σ (.lst (tkD low r.2)) σ') (c : CL low x.oc x.tb x.ow x.ld x.ga x.od t r.1 σ') (F : Fm [x.tb, x.ow, x.ld, x.ga] σ σ') (k : KP r.1)
theorem take_ok {C : Cx} {x : Cl} {low m : Nat} {t : Int} {c : Nat → Nat → Int} {s : S2} {q : List Nat} {σ : St} (Q : Pr C) (hl : low < 28) (ht : t = 1 ∨ t = -1) (hx : x.oc = Q.tc) (nd : [x.tb, x.ow, x.ld, x.ga, x.od].Nodup) (C0 : CL low x.oc x.tb x.ow x.ld x.ga x.od t s σ) (J : E2.Inv c (prT t low) s (m :: q)) (K : KP s) :
    TkO C Q.a16 x low m t s (take (prT t low) s m) σ := by
  refine cps fun G kk => ?_
  obtain ⟨i0, hi, h0, hmi, hn⟩ := (J.q2 m).mp (.head _)
  obtain ⟨rk, en, Rk⟩ := J.rk
  have I := J.ia
  have ⟨I1, _⟩ := I.one (pr := prT t low) hi h0 (hmi ▸ hn)
  obtain ⟨u', Rg⟩ := ring_ok (pr := prT t low) I Rk hi h0 (hmi ▸ hn)
  rw [hmi] at I1 Rg
  have hms := K.k.own i0 hi
  rw [hmi] at hms
  obtain ⟨hm64, hm0⟩ := hms
  have sz : s.gains.length ≤ 320 := Nat.le_trans (Nat.le_add_right _ _) J.sz2
  have hll := J.ll
  have htl : s.tab.length ≤ 5 + 2 * 320 := Nat.le_trans K.tl (Nat.add_le_add_left (Nat.mul_le_mul_left 2 sz) 5)
  obtain ⟨g, hg, u1⟩ := I.t1 i0 hi h0
  rw [hmi] at hg
  have htab : tabF s.tab m = g := by unfold tabF; rw [hg]; rfl
  have hne : outs m ≠ [] := by
    intro e
    have hm1 : m ≠ 1 := fun e => h0 ((I.ne1 hi).mp (hmi.trans e))
    have hb0 : m.testBit 0 = false := by
      rw [← hmi, I.own_ne hi (by decide), I.o0, hmi]; exact fun e => hm1 e.symm
    have := outs_mem (m := m) (i := 0) |>.mpr ⟨by decide, hb0⟩
    rw [e] at this; cases this
  have hs1 : s1 (prT t low) s m = ⟨aset s.tab m fun x => g x - g (bestU (lessR (prT t low) g) (outs m)), s.own, aset s.lead m (bestU (lessR (prT t low) g) (outs m)), s.gains ++ [(m, g (bestU (lessR (prT t low) g) (outs m)))]⟩ := by
    unfold s1; rw [htab]
  obtain ⟨hu, hbest⟩ := bestU_ok (pr := prT t low) (g := g) hne
  have hul := hs1 ▸ Rg.lead
  have hue : bestU (lessR (prT t low) g) (outs m) = u' := by
    have h1 := congrArg (fun l => aget l m) hul
    dsimp only at h1
    rw [aget_set, aget_set, if_pos rfl, if_pos rfl] at h1
    exact Option.some.inj h1
  have hle : ∀ x ∈ outs m, x ≠ bestU (lessR (prT t low) g) (outs m) → lessR (prT t low) g (bestU (lessR (prT t low) g) (outs m)) x = true := by
    exact best_less hl ht hu hbest
  have C1 := CL.gains nd C0 (s.gains ++ [(m, g (bestU (lessR (prT t low) g) (outs m)))])
  have C2 := CL.tab nd (C1.app [AO.dead]) (aset s.tab m fun x => g x - g (bestU (lessR (prT t low) g) (outs m)))
  have C3 := CL.lead nd C2 (aset s.lead m (bestU (lessR (prT t low) g) (outs m)))
  rw [← hs1] at C3
  generalize hσ3 : ((σ.set x.ga (.lst (gainsD low (s.gains ++ [(m, g (bestU (lessR (prT t low) g) (outs m)))]))) ++ [AO.dead]).set x.tb (.ds (tabD low (aset s.tab m fun x => g x - g (bestU (lessR (prT t low) g) (outs m)))))).set x.ld (.ds (leadD low (aset s.lead m (bestU (lessR (prT t low) g) (outs m))))) = σ3 at C3
  have F3 : Fm [x.tb, x.ow, x.ld, x.ga] σ σ3 := by
    rw [← hσ3]
    exact ((Fm.set _ _ (.inl (.tail _ (.tail _ (.tail _ (.head _)))))).trans ((Fm.app _ _ _).trans (Fm.set _ _ (.inl (.head _))))).trans (Fm.set _ _ (.inl (.tail _ (.tail _ (.head _)))))
  have hl3 : σ.length ≤ σ3.length := F3.1
  have KO1 : ∀ i < 6, (s1 (prT t low) s m).own i < 64 ∧ (s1 (prT t low) s m).own i ≠ 0 := K.k.own
  have K1l : ∀ p ∈ (s1 (prT t low) s m).lead, p.1 < 64 ∧ p.1 ≠ 0 := by
    rw [hs1]; exact aset_all (P := fun p => p.1 < 64 ∧ p.1 ≠ 0) ⟨hm64, hm0⟩ K.k.lead
  have K1t : ∀ p ∈ (s1 (prT t low) s m).tab, p.1 < 64 ∧ p.1 ≠ 0 := by
    rw [hs1]; exact aset_all (P := fun p => p.1 < 64 ∧ p.1 ≠ 0) ⟨hm64, hm0⟩ K.k.tab
  have K1s : ∀ p ∈ (s1 (prT t low) s m).lead, p.2 < 6 := by
    rw [hs1]; exact aset_all (P := fun p => p.2 < 6) (outs_lt _ hu) K.l6
  have hg1 : (s1 (prT t low) s m).gains.length = s.gains.length + 1 := by rw [hs1]; exact List.length_append
  have ht1 : (s1 (prT t low) s m).tab.length ≤ s.tab.length + 1 := by rw [hs1]; exact aset_len _ _ _
  have hlg : ∀ S, aget (s1 (prT t low) s m).lead S = if m = S then some u' else aget s.lead S := fun S => by rw [Rg.lead, aget_set]
  have hlen := Rg.len
  have hfin : fin (prT t low) s m = nx s.own (s1 (prT t low) s m).lead (lst m (chase s.own (s1 (prT t low) s m).lead m 1000 m)) := rfl
  have hrgd : ring (prT t low) s m = m :: chase s.own (s1 (prT t low) s m).lead m 1000 m := rfl
  have hmem : ∀ p ∈ ring (prT t low) s m, ∃ i < 6, i ≠ 0 ∧ s.own i = p ∧ (aget (s1 (prT t low) s m).lead p).isSome = true := by
    intro p hp
    rw [hrgd] at hp
    rcases List.mem_cons.mp hp with rfl | hp
    · exact ⟨i0, hi, h0, hmi, by rw [hlg, if_pos rfl]; rfl⟩
    · obtain ⟨b1, ⟨i, h6, rfl⟩, b3, u1⟩ := Rg.mem p hp
      refine ⟨i, h6, fun e => ?_, rfl, by rw [hlg, if_neg (Ne.symm b1)]; exact b3⟩
      rw [e, I.o0, I.l0] at b3; cases b3
  have hr64 : ∀ p ∈ ring (prT t low) s m, p < 64 ∧ p ≠ 0 := by
    intro p hp
    obtain ⟨i, h6, u1, rfl, u2⟩ := hmem p hp
    exact K.k.own i h6
  have hmr := lst_mem (chase s.own (s1 (prT t low) s m).lead m 1000 m) m
  have hdr := lst_last (chase s.own (s1 (prT t low) s m).lead m 1000 m) m
  rw [← hrgd] at hmr hdr
  obtain ⟨il, hil, u1, hile, hils⟩ := hmem _ hmr
  obtain ⟨ul, hul2⟩ := Option.isSome_iff_exists.mp hils
  have hul6 := (I1.l1 _ _ hul2).1
  obtain ⟨fi, hfi, hfie⟩ := Rg.own
  have hf64 := K.k.own fi hfi
  rw [hfie] at hf64
  have C6 := C3.app [AO.dead]
  have F6 : Fm [x.tb, x.ow, x.ld, x.ga] σ (σ3 ++ [AO.dead]) := F3.trans (Fm.app _ _ _)
  have hdl : (ring (prT t low) s m).dropLast.length ≤ 1000 := by rw [List.length_dropLast, hrgd]; exact Nat.le_trans hlen (by decide)
  have htd : tkD low (ring (prT t low) s m) = tkD low (ring (prT t low) s m).dropLast ++ [.str (tokA low (lst m (chase s.own (s1 (prT t low) s m).lead m 1000 m)))] := by
    rw [← show tkD low [lst m (chase s.own (s1 (prT t low) s m).lead m 1000 m)] = [.str (tokA low (lst m (chase s.own (s1 (prT t low) s m).lead m 1000 m)))] from rfl]
    unfold tkD
    rw [← List.map_append, ← hdr]
  have go : ∀ {d σ'}, (∀ A env, TR (.fn C A 1 fd16 env) (tkR x low m (some (rowsL low m g)) (some (rowD (rowOf low g (bestU (lessR (prT t low) g) (outs m))))) (some (.lst (tkD low (ring (prT t low) s m)))) none none) (execs (tkB 8) env) (σ3 ++ [.dead]) d σ') → FnTo C 2 Q.a16 [.loc x.tb, .loc x.ow, .loc x.ld, .loc x.ga, .loc x.od, .ds (flagsD low), .str (tokA low m)] σ d σ' := fun {d σ'} h =>
    fn_to (f := fd16) Q.F16 Q.G.lim fd16_ok (.cons 0 rfl rfl (.cons 1 rfl rfl (.cons 2 rfl rfl (.cons 3 rfl rfl (.cons 4 rfl rfl (.cons 5 rfl rfl (.cons 6 rfl rfl .nil))))))) fun u0 u0 => .ret fun A env u0 =>
      tk_a Q hl ht hx C0.c1 C0.c5 (tab_at hl K.k.tab hm64 hm0 hg) hne (tk_b Q hl ht hx nd C0 K.k hm64 hm0 hg hu hle (Nat.le_trans sz (by decide)) (Nat.le_trans htl (by decide)) (hll ▸ Nat.le_trans sz (by decide)) (by
        rw [hσ3]
        exact tk_c hl C3.c2 C3.c3 K1l K1s K.k.own hm64 hm0 (by rw [hlg, if_pos rfl]; rfl) (Nat.lt_of_le_of_lt hlen (by decide)) (h A env)))
  by_cases hf : fin (prT t low) s m = m
  · have htk : take (prT t low) s m = (s2 (s1 (prT t low) s m) (ring (prT t low) s m), [whole s.own (ring (prT t low) s m)]) := by
      unfold take; rw [if_pos hf]
    rw [htk] at kk
    have hlk := Rg.lk
    rw [hf] at hlk
    have ⟨I2, hWl, hWo⟩ := I1.two (rg := ring (prT t low) s m) hrgd hlk hmem
    have KO2 := KO.own_of I2
    have hmin : m ∈ ring (prT t low) s m := by rw [hrgd]; exact .head _
    have hin0 : i0 ∈ insL s.own (ring (prT t low) s m) := List.mem_filter.mpr ⟨List.mem_range.mpr hi, List.contains_iff_mem.mpr (hmi ▸ hmin)⟩
    have hW0 : whole s.own (ring (prT t low) s m) ≠ 0 := by
      intro e
      have : (whole s.own (ring (prT t low) s m)).testBit i0 = _ := mkM_bit _ i0 hi
      rw [e, Nat.zero_testBit, hmi, List.contains_iff_mem.mpr hmin] at this
      cases this
    have hrt : ∀ p ∈ ring (prT t low) s m, ∃ g, aget (s1 (prT t low) s m).tab p = some g ∧ ∀ x < 6, x ∉ insL s.own (ring (prT t low) s m) → p.testBit x = false := by
      intro p hp
      obtain ⟨i, h6, hi0, rfl, u1⟩ := hmem p hp
      obtain ⟨g', hg', u1⟩ := I1.t1 i h6 hi0
      refine ⟨g', hg', fun x hx hxn => (I.own_ne h6 hx).mpr fun e => hxn (List.mem_filter.mpr ⟨List.mem_range.mpr hx, List.contains_iff_mem.mpr (e ▸ hp)⟩)⟩
    have C7 := C6.app [AO.dead]
    have C8 := CL.tab nd C7 (aset (s1 (prT t low) s m).tab (whole s.own (ring (prT t low) s m)) fun u => minOf ((ring (prT t low) s m).map fun p => tabF (s1 (prT t low) s m).tab p u))
    have C9 := CL.own nd C8 fun i => if (ring (prT t low) s m).contains (s.own i) then whole s.own (ring (prT t low) s m) else s.own i
    refine kk ⟨_, go fun A env => tk_go (pre := (ring (prT t low) s m).dropLast) (X := lst m (chase s.own (s1 (prT t low) s m).lead m 1000 m)) Q hl C6.c1 C6.c2 C6.c3 (fun e => by rw [e] at nd; exact (List.nodup_cons.mp nd).1 (.head _)) K1t K1l K.k.own hm64 hm0 hdl (hr64 _ hmr).1 (hr64 _ hmr).2 hul2 hul6 hf hdr hr64 hrt (fun e => by rw [e] at hin0; cases hin0) hW0 (Nat.le_trans ht1 (Nat.le_trans (Nat.succ_le_succ htl) (by decide))), C9, (F6.trans (Fm.app _ _ _)).trans ((Fm.set _ _ (.inl (.head _))).trans (Fm.set _ _ (.inl (.tail _ (.head _))))), ⟨?_, K1l, KO2⟩, K1s, ?_⟩
    · exact aset_all (P := fun p => p.1 < 64 ∧ p.1 ≠ 0) ⟨(mkM_lt _ : whole s.own (ring (prT t low) s m) < 64), hW0⟩ K1t
    · have := aset_len (s1 (prT t low) s m).tab (whole s.own (ring (prT t low) s m)) fun u => minOf ((ring (prT t low) s m).map fun p => tabF (s1 (prT t low) s m).tab p u)
      show _ ≤ 5 + 2 * (s1 (prT t low) s m).gains.length
      rw [hg1]
      exact Nat.le_trans this (Nat.succ_le_succ (Nat.le_trans ht1 (Nat.succ_le_succ K.tl)))
  · have htk : take (prT t low) s m = (s1 (prT t low) s m, []) := by
      unfold take; rw [if_neg hf]
    rw [htk] at kk
    exact kk ⟨σ3 ++ [AO.dead], go fun A env => htd ▸ tk_stop hl C6.c2 C6.c3 K1l K.k.own hm64 hm0 hdl (hr64 _ hmr).1 (hr64 _ hmr).2 hul2 hul6 hf, C6, F6, ⟨K1t, K1l, KO1⟩, K1s, (by show _ ≤ 5 + 2 * (s1 (prT t low) s m).gains.length; rw [hg1]; exact Nat.le_trans ht1 (Nat.le_trans (Nat.succ_le_succ K.tl) (Nat.le_succ _)))⟩
end Mine
end
section
open PySem PySem.W PyProof.Rows
namespace Mine
open E2
structure LX (x : Lx) (ln : Nat) (cs : List Nat) (pb : List D) (σ : St) : Prop where
  l : σ[x.L]? = some (.ins x.ct (x.fs ln))
  i : σ[x.IT]? = some (.it (cs.map sg))
  p : σ[x.Pb]? = some (.lst pb)
  f : σ[x.FO]? = some (.fo (rdF x.IT))
noncomputable def Lx.cells (x : Lx) : List Nat := [x.L, x.IT, x.Pb, x.FO]
structure Lx.Nd (x : Lx) : Prop where
  a1 : x.L ≠ x.IT
  a2 : x.L ≠ x.Pb
  a3 : x.L ≠ x.FO
  b1 : x.IT ≠ x.Pb
  b2 : x.IT ≠ x.FO
  c1 : x.Pb ≠ x.FO
section
variable {x : Lx} {ln : Nat} {cs pre : List Nat} {pb pb' : List D} {σ σ' : St} {S : List Nat} {C : Cx}
theorem LX.frame (X : LX x ln cs pb σ) (F : Fm S σ σ') (h : ∀ n ∈ x.cells, n ∉ S) : LX x ln cs pb σ' :=
  ⟨F.at X.l (h _ (.head _)), F.at X.i (h _ (.tail _ (.head _))), F.at X.p (h _ (.tail _ (.tail _ (.head _)))), F.at X.f (h _ (.tail _ (.tail _ (.tail _ (.head _)))))⟩
theorem LX.push (X : LX x ln cs pb σ) (hn : x.Nd) (pb' : List D) : LX x ln cs pb' (σ.set x.Pb (.lst pb')) :=
  ⟨(List.getElem?_set_ne hn.a2.symm).trans X.l, (List.getElem?_set_ne hn.b1.symm).trans X.i, List.getElem?_set_self (at_lt X.p), (List.getElem?_set_ne hn.c1).trans X.f⟩
theorem LX.H (X : LX x ln cs pb σ) (hn : x.Nd) : x.H σ := ⟨at_lt X.l, at_lt X.i, hn.a1, X.f, hn.a3.symm, hn.b2.symm⟩
theorem LX.more (X : LX x ln cs pb σ) (hn : x.Nd) (ln' : Nat) (cs' : List Nat) (o : AO) : LX x ln' cs' pb (x.at σ ln' cs' ++ [o]) ∧ Fm [x.L, x.IT] σ (x.at σ ln' cs' ++ [o]) :=
  ⟨⟨at_app (X.H hn).at_L, at_app (X.H hn).at_I, at_app ((Lx.at_o hn.a2.symm hn.b1.symm).trans X.p), at_app (X.H hn).at_F⟩, ((Fm.set _ _ (.inl (.tail _ (.head _)))).trans (Fm.set _ _ (.inl (.head _)))).trans (Fm.app _ _ _)⟩
theorem LX.get (Q : Pr C) (hx : x.ct = Q.lx) {word rest : List Nat} {w : Nat} (X : LX x ln (pre ++ (spell word w ++ rest)) [] σ) (hn : x.Nd) (hpre : ∀ c ∈ pre, isWs c = true) (hw0 : word ≠ []) (hwl : word.length ≤ 1000) :
    ∃ σ', FnTo C 4 Q.l2 [.loc x.L] σ (.str (mkS word)) σ' ∧ LX x (ln + nls (pre ++ took word w)) (left w ++ rest) [] σ' ∧ Fm [x.L, x.IT] σ σ' := by
  have h := get_word (ln := ln) (pre := pre) (rest := rest) (w := w) Q.G (hx ▸ Q.X) (X.H hn) hn.a2.symm hn.b1.symm X.p hpre hw0 hwl
  rw [(X.H hn).same X.l X.i, Nat.add_assoc, ← nls_app] at h
  obtain ⟨a, b⟩ := X.more hn (ln + nls (pre ++ took word w)) (left w ++ rest) (.cit x.L true)
  exact ⟨_, h, a, b⟩
theorem LX.fin (Q : Pr C) (hx : x.ct = Q.lx) (X : LX x ln pre [] σ) (hn : x.Nd) (hpre : ∀ c ∈ pre, isWs c = true) :
    ∃ σ', FnTo C 4 Q.l2 [.loc x.L] σ (.str (mkS [])) σ' ∧ LX x (ln + nls pre) [] [] σ' ∧ Fm [x.L, x.IT] σ σ' := by
  have h := get_end (ln := ln) Q.G (hx ▸ Q.X) (X.H hn) hn.a2.symm hn.b1.symm X.p hpre
  rw [List.append_nil, (X.H hn).same X.l X.i] at h
  obtain ⟨a, b⟩ := X.more hn (ln + nls pre) [] (.cit x.L false)
  exact ⟨_, h, a, b⟩
end
noncomputable def testS (s : Stmt) : Expr := (prt s).e
noncomputable def subE (e : Expr) : Expr := (ept e).e
noncomputable def argE (e : Expr) (i : Nat) : Expr := (ept e).a.getD i e0
noncomputable def lam0 : LamInfo := lamE (argE (subE (testS ((pT 17).body.getD 20 (.Pass default)))) 3)
noncomputable def fdL0 : Fd := ⟨lam0.scope, ["token", "table", "owner", "lead", "gains", "order", "flags"], [0], []⟩
noncomputable def capV (x : Cl) (low : Nat) : List (Str × D) := [("table", .loc x.tb), ("owner", .loc x.ow), ("lead", .loc x.ld), ("gains", .loc x.ga), ("order", .loc x.od), ("flags", .ds (flagsD low))]
theorem fdL0_ok (x : Cl) (low : Nat) : fnB fdL0 lam0.params ((capV x low).map (·.1)) = true := by
  show fnB fdL0 lam0.params ["table", "owner", "lead", "gains", "order", "flags"] = true
  kernel_rfl
theorem fdL0_free (x : Cl) (low : Nat) : ((capV x low).map (·.1)).all (fun y => fdL0.scope.names.lookup y == some .free) = true := by
  show (["table", "owner", "lead", "gains", "order", "flags"] : List Str).all (fun y => fdL0.scope.names.lookup y == some .free) = true
  kernel_rfl
theorem fdL0_cap (x : Cl) (low : Nat) : capR fdL0 (capV x low) = [none, some (.loc x.tb), some (.loc x.ow), some (.loc x.ld), some (.loc x.ga), some (.loc x.od), some (.ds (flagsD low))] := by kernel_rfl
theorem deed_ok {C : Cx} {x : Cl} {low : Nat} {a d : D} {σ σ' : St} (Q : Pr C) (hl : LamAt C 0 lam0) (h : FnTo C 2 Q.a16 [.loc x.tb, .loc x.ow, .loc x.ld, .loc x.ga, .loc x.od, .ds (flagsD low), a] σ d σ') : LamTo C 3 0 (capV x low) [a] σ d σ' :=
  call_lam (f := fdL0) Q.G.lim hl.uniq (fdL0_ok x low) (fdL0_free x low) (by rw [fdL0_cap]; exact .cons 0 rfl rfl .nil) fun A env =>
    call Q.F16 h (ac (tv 1 rfl) (ac (tv 2 rfl) (ac (tv 3 rfl) (ac (tv 4 rfl) (ac (tv 5 rfl) (a2 (tv 6 rfl) (tv 0 rfl)))))))
end Mine
end
section
open PySem PySem.W PyProof.Rows
namespace Mine
open E2
noncomputable def fd15 : Fd := ⟨(pT 15).scope, ["lexer", "line", "close", "deed", "name", "other"], [0, 1, 2, 3, 4, 5], []⟩
theorem fd15_ok : fnB fd15 (pT 15).params [] = true := by kernel_rfl
noncomputable def rnR (L li : Nat) (close : Str) (x : Cl) (low : Nat) : Rho := [some (.loc L), some (.loc li), some (.str close), some (.lam 0 (capV x low)), none, none]
noncomputable def rnS : Stmt := (pT 15).body.getD 1 (.Pass default)
structure LB where
  done : List Nat
  rest : List Nat
  σ : St
theorem Run.start {K : Ctx} {ι : Type} {N : ι → St → Option D → ι → St → Prop} {target : Expr} {body els : List Stmt} {n : Nat} {i : ι} {ρ ρ' : Rho} {σ σ₁ σ' : St} {fl : Fl} (e : σ = σ₁) (r : Run K N target body els n i ρ σ fl ρ' σ') : Run K N target body els n i ρ σ₁ fl ρ' σ' := e ▸ r
theorem take_gains (pr : Nat → Int) (s : S2) (m : Nat) : ∃ y, (take pr s m).1.gains = s.gains ++ [(m, y)] := by
  unfold take
  split <;> exact ⟨_, rfl⟩
theorem tkD_app (low : Nat) (a b : List Nat) : tkD low (a ++ b) = tkD low a ++ tkD low b := List.map_append
theorem tkD_len (low : Nat) (a : List Nat) : (tkD low a).length = a.length := List.length_map _
section
variable {C : Cx} {A : Around} {env : Env} {x : Lx} {z : Cl} {low li ln : Nat} {cs : List Nat} {close : Str} {t : Int} {c : Nat → Nat → Int} {σ : St}
theorem Lx.no_push : kget (x.fs ln) "push_token" = none := by kernel_rfl
theorem Lx.no_get : kget (x.fs ln) "get_token" = none := by kernel_rfl
theorem rn0 (Q : Pr C) (hx : x.ct = Q.lx) (hn : x.Nd) (hli : li ≠ x.Pb) (q : List Nat) (hq : q.length ≤ 1000) (X : LX x ln cs [] σ) (hc : σ[li]? = some (.lst (tkD low q))) {p : Pos} :
    TS (.fn C A 4 fd15 env) (rnR x.L li close z low) (exec ((pT 15).body.getD 0 (.Pass default)) env) σ .next (rnR x.L li close z low) (σ.set x.Pb (.lst (tkD low q))) := by
  refine TS_for (TI_live (tv 1 rfl) hc) (Run.wf (P := fun b : LB => LX x ln cs (tkD low b.done) b.σ ∧ b.σ[li]? = some (.lst (tkD low q)) ∧ b.done ++ b.rest = q ∧ b.σ.set x.Pb (.lst (tkD low q)) = σ.set x.Pb (.lst (tkD low q))) (m := fun b => b.rest.length) (i := fun b => b.done.length) (R := fun u0 => rnR x.L li close z low) (S := fun b => b.σ) (F := fun u0 => ⟨.next, rnR x.L li close z low, σ.set x.Pb (.lst (tkD low q))⟩) (fun b h => ?_) q.length ⟨[], q, σ⟩ ⟨X, hc, rfl, rfl⟩ (Nat.le_refl _))
  obtain ⟨done, rest, σ₁⟩ := b
  obtain ⟨X1, h1, h2, h3⟩ := h
  dsimp only at X1 h1 h2 h3
  cases rest with
  | nil =>
    rw [List.append_nil] at h2; subst h2
    exact .done done.length σ₁ (.none h1 (List.getElem?_eq_none (by rw [tkD_len]; exact Nat.le_refl _))) (h3 ▸ (set_eq X1.p).symm ▸ TS_nil)
  | cons m rest =>
    have hz : (tkD low done).length ≤ 1000000 := by rw [tkD_len]; have := congrArg List.length h2; rw [List.length_append] at this; omega
    have hg : (tkD low q)[done.length]? = some (.str (tokA low m)) := by rw [← h2, tkD_app, List.getElem?_append_right (by rw [tkD_len]; exact Nat.le_refl _), tkD_len, Nat.sub_self]; rfl
    exact .next ⟨done ++ [m], rest, σ₁.set x.Pb (.lst (tkD low (done ++ [m])))⟩ _ _ _ ⟨X1.push hn _, (List.getElem?_set_ne hli.symm).trans h1, by rw [List.append_assoc]; exact h2, (List.set_set ..).trans h3⟩ (Nat.lt_succ_self _) rfl
      (by rw [List.length_append]; exact .some h1 hg) (.v (i := 4) rfl rfl) .next (.inl rfl) (TS_cons (TS.st (TS_ex (TE_mcall (push_fn Q.G (hx ▸ Q.X) (.str (tokA low m)) (tkD low done) X1.l X1.p hz) (Nat.le_of_ble_eq_true rfl) (hx ▸ Q.X.pf) Q.X.pt.isFn rfl (tv 0 rfl) X1.l Lx.no_push (a1 (tv 4 rfl)))) (by rw [tkD_app]; rfl)) (TS_nilf [4]))
theorem rn1 (Q : Pr C) (hx : x.ct = Q.lx) (hn : x.Nd) (hli : li ∉ x.cells) {out all pb : List Nat} {σ₁ : St} {name : Str} (X : LX x ln cs (tkD low pb) σ) (hc : σ[li]? = some (.lst (tkD low all))) (ha : all.length + out.length ≤ 1000) (hb : pb.length + out.length ≤ 1000) (hd : LamTo C 3 0 (capV z low) [.str name] σ₁ (.lst (tkD low out)) σ) :
    TS (.fn C A 4 fd15 env) ((rnR x.L li close z low).set 4 (some (.str name))) (execs ((forB rnS).drop 1) env) σ₁ .next (rnR x.L li close z low) ((σ.set x.Pb (.lst (tkD low (pb ++ out)))).set li (.lst (tkD low (all ++ out)))) := by
  have h1 : li ≠ x.L := fun e => hli (e ▸ .head _)
  have h2 : li ≠ x.IT := fun e => hli (e ▸ .tail _ (.head _))
  have h3 : li ≠ x.Pb := fun e => hli (e ▸ .tail _ (.tail _ (.head _)))
  have hlt := at_lt hc
  have hpt := at_lt X.p
  have at_l : ∀ {a b : List D}, ((σ.set x.Pb (.lst a)).set li (.lst b))[li]? = some (.lst b) := fun {a b} => List.getElem?_set_self (by rw [List.length_set]; exact hlt)
  have at_p : ∀ {a b : List D}, ((σ.set x.Pb (.lst a)).set li (.lst b))[x.Pb]? = some (.lst a) := fun {a b} => (List.getElem?_set_ne h3).trans (List.getElem?_set_self hpt)
  have at_L : ∀ {a b : List D}, ((σ.set x.Pb (.lst a)).set li (.lst b))[x.L]? = some (.ins x.ct (x.fs ln)) := fun {a b} => (List.getElem?_set_ne h1).trans ((List.getElem?_set_ne hn.a2.symm).trans X.l)
  refine TS_cons (TS_for (TI_of (TE_vcall (i := 3) hd (Nat.le_of_ble_eq_true rfl) (by kernel_rfl) rfl rfl rfl (a1 (tv 4 rfl))) iter_lst) (Run.start (σ := (σ.set x.Pb (.lst (tkD low (pb ++ [])))).set li (.lst (tkD low (all ++ [])))) ?_ (Run.scan0 (R := fun u0 => (rnR x.L li close z low).set 4 (some (.str name))) (S := fun l => (σ.set x.Pb (.lst (tkD low (pb ++ l)))).set li (.lst (tkD low (all ++ l)))) out rfl fun done m todo e => ?_))) (TS_nilf [4])
  · rw [List.append_nil, List.append_nil, set_eq X.p, set_eq hc]
  · have hlen := congrArg List.length e
    rw [List.length_append, List.length_cons] at hlen
    exact ⟨_, _, .v (i := 5) rfl rfl, .inl rfl, TS_cons (TS.st (σ₂ := (σ.set x.Pb (.lst (tkD low (pb ++ (done ++ [m]))))).set li (.lst (tkD low (all ++ done)))) (TS_ex (TE_mcall (push_fn Q.G (hx ▸ Q.X) (.str (tokA low m)) (tkD low (pb ++ done)) at_L at_p (by rw [tkD_len, List.length_append]; omega)) (Nat.le_of_ble_eq_true rfl) (hx ▸ Q.X.pf) Q.X.pt.isFn rfl (tv 0 rfl) at_L Lx.no_push (a1 (tv 5 rfl)))) (by rw [List.set_comm _ _ h3, List.set_set, ← List.append_assoc pb, tkD_app low (pb ++ done)]; rfl))
      (TS_cons (TS.st (σ₂ := (σ.set x.Pb (.lst (tkD low (pb ++ (done ++ [m]))))).set li (.lst (tkD low (all ++ (done ++ [m]))))) (TS_ex (TE_append at_l at_l (by rw [tkD_len, List.length_append]; omega) (tv 1 rfl) (a1 (tv 5 rfl)))) (by rw [List.set_set, ← List.append_assoc all, tkD_app low (all ++ done)]; rfl)) (TS_nilf [5]))⟩
structure Ch (x : Lx) (z : Cl) (li : Nat) : Prop where
  nx : x.Nd
  nz : [z.tb, z.ow, z.ld, z.ga, z.od].Nodup
  xz : ∀ n ∈ x.cells, n ∉ [z.tb, z.ow, z.ld, z.ga, z.od]
  lx : li ∉ x.cells
  lz : li ∉ [z.tb, z.ow, z.ld, z.ga, z.od]
theorem mem4 {a b c d e n : Nat} (h : n ∈ [a, b, c, d]) : n ∈ [a, b, c, d, e] := List.mem_append_left [e] h
structure RnP (low li ln : Nat) (cs : List Nat) (x : Lx) (z : Cl) (t : Int) (c : Nat → Nat → Int) (k : Nat) (s : S2) (q : List Nat) (σ : St) : Prop where
  J : E2.Inv c (prT t low) s q
  K : KP s
  C0 : CL low z.oc z.tb z.ow z.ld z.ga z.od t s σ
  hc : σ[li]? = some (.lst (tkD low (s.gains.map (·.1) ++ q)))
  X : LX x ln cs (tkD low q) σ
  h : s.gains.length + k = 1000
inductive RnO (C : Cx) (low li ln : Nat) (cs : List Nat) (x : Lx) (z : Cl) (t : Int) (c : Nat → Nat → Int) (k n : Nat) (σ : St) : Prop
  | mk (s' : S2) (σ' : St) (go : ∀ {A env close p}, Run (.fn C A 4 fd15 env) (Nv li) (.Name "name" p) (forB rnS) [] k n (rnR x.L li close z low) σ .next (rnR x.L li close z low) σ') (J : E2.Inv c (prT t low) s' []) (K : KP s') (C0 : CL low z.oc z.tb z.ow z.ld z.ga z.od t s' σ') (hc : σ'[li]? = some (.lst (tkD low (s'.gains.map (·.1))))) (X : LX x ln cs [] σ') (F : Fm [z.tb, z.ow, z.ld, z.ga, li, x.Pb] σ σ')
theorem rn2 (Q : Pr C) (hL : LamAt C 0 lam0) (hx : x.ct = Q.lx) (hz : z.oc = Q.tc) (hl : low < 28) (ht : t = 1 ∨ t = -1) (ch : Ch x z li) : ∀ (k : Nat) (s : S2) (q : List Nat) (σ : St), RnP low li ln cs x z t c k s q σ → RnO C low li ln cs x z t c k s.gains.length σ
  | 0, s, q, σ, ⟨J, _, _, _, _, h⟩ => by have := J.sz2; omega
  | k + 1, s, q, σ, ⟨J, K, C0, hc, X, h⟩ => by
    cases q with
    | nil =>
      rw [List.append_nil] at hc
      exact ⟨s, σ, .done (.none hc (List.getElem?_eq_none (by rw [tkD_len, List.length_map]; exact Nat.le_refl _))) TS_nil, J, K, C0, hc, X, Fm.refl _ _⟩
    | cons m q =>
    have sz := J.sz2
    rw [List.length_cons] at sz
    have J' := J.step
    have kp : ∀ {r : S2 × List Nat}, take (prT t low) s m = r → E2.Inv c (prT t low) r.1 (q ++ r.2) := fun e => e ▸ J'
    obtain ⟨y, hg⟩ := take_gains (prT t low) s m
    have hP : x.Pb ∈ x.cells := .tail _ (.tail _ (.head _))
    have hget := get_push (σ := σ) Q.G (hx ▸ Q.X) (.str (tokA low m)) (tkD low q) X.l X.p (by rw [tkD_len]; omega)
    have hc1 : (σ.set x.Pb (.lst (tkD low q)))[li]? = some (.lst (tkD low (s.gains.map (·.1) ++ m :: q))) := (List.getElem?_set_ne fun (e : x.Pb = li) => ch.lx (e ▸ hP)).trans hc
    have T := take_ok Q hl ht hz ch.nz (C0.off (.lst (tkD low q)) (ch.xz _ hP)) J K
    clear kp
    generalize take (prT t low) s m = r at hg T J'
    obtain ⟨s1, out⟩ := r
    obtain ⟨σ2, ht2, C2, F2, K2⟩ := T
    dsimp only at hg J' ht2 C2 K2
    have sz' := J'.sz2
    rw [hg, List.length_append, List.length_append, List.length_singleton] at sz'
    have X2 := (X.push ch.nx (tkD low q)).frame F2 fun n hn hm => ch.xz n hn (mem4 hm)
    have hc2 := F2.at hc1 fun hm => ch.lz (mem4 hm)
    have w := fun {A : Around} {env : Env} {close : Str} => rn1 (A := A) (env := env) (close := close) Q hx ch.nx ch.lx X2 hc2 (by rw [List.length_append, List.length_map, List.length_cons]; omega) (by omega) (deed_ok Q hL ht2)
    rw [show s.gains.map (·.1) ++ m :: q ++ out = s1.gains.map (·.1) ++ (q ++ out) by rw [hg, List.map_append, List.append_assoc, List.append_assoc]; rfl] at w
    generalize hq : q ++ out = q' at w J' sz'
    have hlen : s1.gains.length = s.gains.length + 1 := by rw [hg, List.length_append]; rfl
    have FF : Fm [z.tb, z.ow, z.ld, z.ga, li, x.Pb] σ ((σ2.set x.Pb (.lst (tkD low q'))).set li (.lst (tkD low (s1.gains.map (·.1) ++ q')))) :=
      (((Fm.set _ _ (.inl (List.mem_append_right [z.tb, z.ow, z.ld, z.ga, li] (.head _)))).trans (F2.mono fun u0 m => List.mem_append_left [li, x.Pb] m)).trans (Fm.set _ _ (.inl (List.mem_append_right [z.tb, z.ow, z.ld, z.ga, li] (.head _))))).trans (Fm.set _ _ (.inl (List.mem_append_right [z.tb, z.ow, z.ld, z.ga] (.head _))))
    obtain ⟨s', σ', z1, z2, z3, z4, z5, z6, z8⟩ := rn2 Q hL hx hz hl ht ch k s1 q' ((σ2.set x.Pb (.lst (tkD low q'))).set li (.lst (tkD low (s1.gains.map (·.1) ++ q')))) ⟨J', K2, (C2.off (.lst (tkD low q')) (ch.xz _ hP)).off _ ch.lz, List.getElem?_set_self (by rw [List.length_set]; exact at_lt hc2), (X2.push ch.nx _).frame (S := [li]) (Fm.set _ _ (.inl (.head _))) fun n hn hm => ch.lx (List.mem_singleton.mp hm ▸ hn), by omega⟩
    rw [hlen] at z1
    have hg0 : (tkD low (s.gains.map (·.1) ++ m :: q))[s.gains.length]? = some (.str (tokA low m)) := by
      rw [tkD_app, List.getElem?_append_right (by rw [tkD_len, List.length_map]; exact Nat.le_refl _), tkD_len, List.length_map, Nat.sub_self]; rfl
    exact ⟨s', σ', .next (.some hc hg0) (.v (i := 4) rfl rfl) (TS_cons (TS_if_f (TB.to (TB_cmp (TE_mcall hget (Nat.le_of_ble_eq_true rfl) (hx ▸ Q.X.gf) Q.X.gt.isFn rfl (tv 0 rfl) X.l Lx.no_get an) (tv 4 rfl) cmp_nes rfl) (by rw [BEq.rfl]; rfl)) TS_nil) w) z1, z2, z3, z4, z5, z6, FF.trans z8⟩
end
end Mine
end
section
open PySem PySem.W PyProof.Rows
namespace Mine
open E2
inductive RunO (C : Cx) (a15 : Addr) (low li ln : Nat) (x : Lx) (z : Cl) (t : Int) (c : Nat → Nat → Int) (word cs : List Nat) (σ : St) : Prop
  | mk (s' : S2) (σ' : St) (f : FnTo C 5 a15 [.loc x.L, .loc li, .str (mkS word), .lam 0 (capV z low)] σ (.bool true) σ') (J : E2.Inv c (prT t low) s' []) (K : KP s') (C0 : CL low z.oc z.tb z.ow z.ld z.ga z.od t s' σ') (hc : σ'[li]? = some (.lst (tkD low (s'.gains.map (·.1))))) (X : LX x ln cs [] σ') (F : Fm [z.tb, z.ow, z.ld, z.ga, li, x.L, x.IT, x.Pb] σ σ')
theorem run_ok {C : Cx} {x : Lx} {z : Cl} {low li ln : Nat} {t : Int} {c : Nat → Nat → Int} {σ : St} (Q : Pr C) (hL : LamAt C 0 lam0) (hx : x.ct = Q.lx) (hz : z.oc = Q.tc) (hl : low < 28) (ht : t = 1 ∨ t = -1) (ch : Ch x z li) {q : List Nat} {pre word rest : List Nat} {w : Nat} (J : E2.Inv c (prT t low) (s0 c) q) (K : KP (s0 c)) (C0 : CL low z.oc z.tb z.ow z.ld z.ga z.od t (s0 c) σ) (hc : σ[li]? = some (.lst (tkD low q))) (X : LX x ln (pre ++ (spell word w ++ rest)) [] σ) (hpre : ∀ c ∈ pre, isWs c = true) (hw0 : word ≠ []) (hwl : word.length ≤ 1000) :
    RunO C Q.a15 low li (ln + nls (pre ++ took word w)) x z t c word (left w ++ rest) σ := by
  have hP : x.Pb ∈ x.cells := .tail _ (.tail _ (.head _))
  have sz := J.sz2
  have X1 := X.push ch.nx (tkD low q)
  have C1 := C0.off (.lst (tkD low q)) (ch.xz _ hP)
  have hc1 : (σ.set x.Pb (.lst (tkD low q)))[li]? = some (.lst (tkD low ((s0 c).gains.map (·.1) ++ q))) := (List.getElem?_set_ne fun (e : x.Pb = li) => ch.lx (e ▸ hP)).trans hc
  obtain ⟨s', σ', z1, z2, z3, z4, z5, z6, z8⟩ := rn2 Q hL hx hz hl ht ch 1000 (s0 c) q _ ⟨J, K, C1, hc1, X1, rfl⟩
  obtain ⟨σ4, v1, v2, v3⟩ := z6.get Q hx ch.nx hpre hw0 hwl
  have hxs : ∀ n ∈ [x.L, x.IT], n ∈ x.cells := fun n h => by
    rcases List.mem_cons.mp h with rfl | h
    · exact .head _
    · cases List.mem_singleton.mp h; exact .tail _ (.head _)
  refine ⟨s', σ4, ?_, z2, z3, z4.frame v3 (fun n hn hm => ch.xz n (hxs n hm) hn), v3.at z5 (fun hm => ch.lx (hxs _ hm)), v2, ((Fm.set _ _ (.inl (List.mem_append_right [z.tb, z.ow, z.ld, z.ga, li, x.L, x.IT] (.head _)))).trans (z8.mono fun n m => (List.mem_append.mp (show n ∈ [z.tb, z.ow, z.ld, z.ga, li] ++ [x.Pb] from m)).elim (fun m => List.mem_append_left [x.L, x.IT, x.Pb] m) fun m => List.mem_append_right [z.tb, z.ow, z.ld, z.ga, li, x.L, x.IT] m)).trans (v3.mono fun n m => List.mem_append_right [z.tb, z.ow, z.ld, z.ga, li] (List.mem_append_left [x.Pb] m))⟩
  refine fn_to (f := fd15) Q.F15 Q.G.lim fd15_ok (.cons 0 rfl rfl (.cons 1 rfl rfl (.cons 2 rfl rfl (.cons 3 rfl rfl .nil)))) fun u0 u0 => .ret fun A env u0 => ?_
  refine TR_cons (rn0 (z := z) Q hx ch.nx (fun (e : li = x.Pb) => ch.lx (e ▸ hP)) q (by omega) X hc (p := default)) ?_
  refine TR_cons (TS_for (TI_live (tv 1 rfl) hc1) z1) ?_
  exact TR_stop (TR_ret (TE.val (TE_cmp (TE_mcall v1 (Nat.le_refl _) (hx ▸ Q.X.gf) Q.X.gt.isFn rfl (tv 0 rfl) z6.l Lx.no_get an) (tv 2 rfl) cmp_eqs rfl) (by rw [BEq.rfl])))
end Mine
end
section
open PySem PySem.W PyProof.Rows
namespace Mine
open E2
section
variable {K : Ctx} {ρ ρ' : Rho} {σ σ₁ σ' : St} {scope : Scope} {α β : Type} {ds : List D} {target iter elt t2 i2 : Expr} {ifs f2 : List Expr} {pos py spos : Pos} {y : Str} {w : W} {a : Addr} {e : Expr} {act : Sem Unit} {l l' : List D}
theorem TG_nest (he : isComp e = true) (hc : (clausesOf e)[1]? = some ⟨target, iter, ifs, 0⟩) (turn : ∀ it, compTurn e 1 it (.ref a) K.env = turnOf target iter ifs act (.compLoop e 1 it (.ref a) K.env) it K.env) (h1 : K.once = []) (ha : a ∉ K.ids) (hi : TI K ρ iter target σ ds σ₁) (hr : CRun K a (GL K.C a) target ifs act ρ ds σ₁ l σ' l') (hs : ∀ x, foldedSetIterable iter K.env x = pure x := by exact fun u0 => rfl) :
    TG K a (GL K.C a) ρ (nestOf e iter 1 (.ref a) K.env) σ l σ' l' := fun w E p q => by
  unfold nestOf
  refine wpAny_bind (wpAny_mono (hi p) (fun x s1 h1' => ?_) fun u0 u0 e => e)
  refine wpAny_bind (wpAny_standAt (wpAny_bind (wpAny_of_eq (hs x) (wpAny_bind (wpAny_holding (wpAny_mono h1' (fun it s2 h2 => ?_) fun u0 u0 e => e))))))
  obtain ⟨w2, k, J, x2, I2, X, j, hn, ok, zk⟩ := h2
  have p2 := p.next x2 I2
  have q2 : GL K.C a l w2 := gat_L.go x2.toMono (x2.mu a id) q
  have za : ∃ o, At w (.mu a) a o := let ⟨_, _, z, _⟩ := q; ⟨_, z⟩
  have ka : k ≠ a := fun e => let ⟨_, z⟩ := za; hn _ (e ▸ z.tag)
  have hid : ∀ j ∈ K.ids, j ≠ k ∧ j ≠ a := fun j m => ⟨fun q => by obtain ⟨u1, z⟩ := p.V.ids j m; exact hn _ (q ▸ z.tag), fun q => ha (q ▸ m)⟩
  refine wpAny_bind (wpAny_runOwn (codeAny_compStart_gen he hc (codeAny_mono (comp_loop he (turn it) X gat_L h1 p2 hid ka j q2 hr) ?_) fun Q E q => X.self j q))
  rintro r s3 ⟨rfl, w3, x3, p3, q3⟩
  exact wpAny_pure ⟨w3, (x2.ofN.trans x3).tight fun b q => q.imp id fun (e : b = k) => e ▸ hn, p3, q3⟩
theorem CRun.nest {M : Nat} (e : α → D) (f : α → List D) : ∀ (xs : List α) (n : List D), n.length + (xs.flatMap f).length ≤ M → (∀ x ∈ xs, ∃ ρ₁, Asg K target (e x) ρ ρ₁ ∧ Le ρ ρ₁ ∧ ∀ n : List D, n.length ≤ M → TG K a (GL K.C a) ρ₁ act σ n σ (n ++ f x)) →
    CRun K a (GL K.C a) target [] act ρ (xs.map e) σ n σ (n ++ xs.flatMap f)
  | [], n, _, _ => (List.append_nil n).symm ▸ .nil
  | x :: xs, n, hz, h => by
    obtain ⟨ρ₁, h1, h2, h3⟩ := h x (.head _)
    rw [List.flatMap_cons, List.length_append] at hz
    have ih := CRun.nest e f xs (n ++ f x) (by rw [List.length_append]; omega) fun y m => h y (.tail _ m)
    rw [List.append_assoc] at ih
    exact .act h1 h2 TT_nil (h3 n (by omega)) ih
inductive C2 (K : Ctx) (ρ : Rho) (σ : St) (target t2 i2 elt : Expr) (f2 : List Expr) (d : D) {β : Type} (ys : List β) (e2 f : β → D) (p : β → Bool) : Prop
  | mk {ρ₁ : Rho} (a : Asg K target d ρ ρ₁) (l : Le ρ ρ₁) (i : TI K ρ₁ i2 t2 σ (ys.map e2) σ) (t : ∀ y ∈ ys, CF K ρ₁ σ t2 elt f2 (e2 y) (f y) (p y))
theorem TP_ll (own : List Nat) (e : α → D) (ys : List β) (e2 : β → D) (f : α → β → D) (p : α → β → Bool) (xs : List α) (hi : TI K ρ iter target σ ds σ₁) (hd : ds = xs.map e) (hz : (xs.flatMap fun x => (ys.filter (p x)).map (f x)).length + ys.length ≤ 16777216) (H : ∀ cenv, ∀ x ∈ xs, C2 (K.sub scope own cenv) (blank own 0 ρ) σ₁ target t2 i2 elt f2 (e x) ys e2 (f x) (p x)) (h : compB K.fd scope own = true := by kernel_rfl) (hs : ∀ x, foldedSetIterable iter K.env x = pure x := by exact fun u0 => rfl) (hs2 : ∀ env x, foldedSetIterable i2 env x = pure x := by exact fun u0 u0 => rfl) :
    TP K ρ (eval (.ListComp elt [⟨target, iter, [], 0⟩, ⟨t2, i2, f2, 0⟩] scope pos) K.env) σ (fun a => GL K.C a (xs.flatMap fun x => (ys.filter (p x)).map (f x))) σ₁ :=
  TP_lc (comp_ll h) hi (fun a cenv ha => by
    rw [hd]
    refine CRun.nest (M := (xs.flatMap fun x => (ys.filter (p x)).map (f x)).length) e (fun x => (ys.filter (p x)).map (f x)) xs [] (by rw [List.length_nil, Nat.zero_add]; exact Nat.le_refl _) fun x m => ?_
    obtain ⟨a1, l1, i1, t1⟩ := H cenv x m
    refine ⟨_, a1, l1, fun n hn => TG_nest rfl rfl (fun u0 => turn_l3) rfl ha i1 (CRun.list ha e2 (f x) (p x) ys n (by omega) fun y m => let ⟨a, l, t, u⟩ := t1 y m; ⟨_, a, l, t, u⟩) (hs2 cenv)⟩) hs
end
noncomputable def fd17 : Fd := ⟨(pT 17).scope, ("script" :: "numbers" :: "draws" :: "known" :: "low" :: "names" :: "flags" :: "costs" :: "signs" :: "parts" :: "callee" :: "octets" :: "caller" :: "text" :: "lexer" :: "none" :: "table" :: "place" :: "left" :: "turn" :: "order" :: "owner" :: "lead" :: "gains" :: "line" :: "total" :: "due" :: "sets" :: "token" :: "cost" :: "ahead" :: "name" :: "best" :: "mask" :: "inside" :: "number" :: "own" :: "sign" :: "octet" :: "word" :: "block" :: "words" :: []),
  [0, 1, 2, 3, 4, 5, 6, 7, 8, 9, 10, 11, 12, 13, 14, 15, 16, 17, 18, 19, 20, 21, 22, 23, 24, 25, 26, 27, 28, 29, 30, 31, 32, 33, 34], [6, 16, 20, 21, 22, 23]⟩
theorem fd17_ok : fnB fd17 (pT 17).params [] = true := by kernel_rfl
end Mine
end
section
open PySem PySem.W PyProof.Rows
namespace Mine
open E2
theorem TS_lm0 {K : Ctx} {ρ : Rho} {σ σ₁ : St} {scope : Scope} {α : Type} {ds : List D} {target iter elt : Expr} {pos py spos : Pos} {y : Str} (i : Nat) (own : List Nat) (e f : α → D) (xs : List α) (hi : TI K ρ iter target σ ds σ₁) (hd : ds = xs.map e) (hz : xs.length ≤ 16777216) (H : ∀ cenv, ∀ x ∈ xs, CT (K.sub scope own cenv) (blank own 0 ρ) σ₁ target elt (e x) (f x)) (hy : K.ns[i]? = some y) (hm : K.may ρ i = true) (h : compB K.fd scope own = true := by kernel_rfl) (hw : swB K.fd.scope scope y py.line pos.line = false := by kernel_rfl) (hs : ∀ x, foldedSetIterable iter K.env x = pure x := by exact fun u0 => rfl) :
    TS K ρ (exec (.Assign [.Name y py] (.ListComp elt [⟨target, iter, [], 0⟩] scope pos) spos) K.env) σ .next (ρ.set i (some (.lst (xs.map f)))) σ₁ :=
  TS_asgs (TP.rest made_L (TP_lm own e f xs hi hd hz H h hs)) hy hm scope hw rfl
noncomputable def slI (a b c : Option Int) (L : List Int) : List Int := (sliceRange (sliceBounds a b c L.length).1 (sliceBounds a b c L.length).2.1 (sliceBounds a b c L.length).2.2).filterMap (L[·]?)
theorem slI_eq (a b c : Option Int) (L : List Int) : (sliceRange (sliceBounds a b c (L.map D.int).length).1 (sliceBounds a b c (L.map D.int).length).2.1 (sliceBounds a b c (L.map D.int).length).2.2).filterMap ((L.map D.int)[·]?) = (slI a b c L).map .int := by
  unfold slI
  rw [List.length_map, List.map_filterMap]
  exact congrArg (fun f => List.filterMap f _) (funext fun x => List.getElem?_map)
theorem slI_len (a b c : Option Int) (L : List Int) : (slI a b c L).length ≤ L.length := by
  refine Nat.le_trans (List.length_filterMap_le _ _) (sliceRange_length_le _ _ _ _ (fun hc => ?_) fun hc => ?_)
  · simp only [sliceBounds] at hc ⊢
    simp only [hc, if_true]
    constructor
    · cases a with
      | none => simp
      | some i => dsimp only; omega
    · cases b with
      | none => simp
      | some i => dsimp only; omega
  · simp only [sliceBounds] at hc ⊢
    simp only [hc, if_false]
    constructor
    · cases a with
      | none => simp
      | some i => dsimp only; omega
    · cases b with
      | none => simp
      | some i => dsimp only; omega
noncomputable def lwR (l : List (Option D)) : Rho := l ++ List.replicate (42 - l.length) none
noncomputable def lwB (i : Nat) : List Stmt := (pT 17).body.drop i
noncomputable def ownL : List Int := [3254470, 1519880, 720497, 6559565, 465385, 2877144, 9511741]
noncomputable def modS (L : List Int) (p : Nat) : List Int := (slI (some (p : Int)) none (some 7) (slI none (some 60) none L)).map (·.fmod 12960000)
noncomputable def numF (L : List Int) (x : Int × Nat) : Nat := ((x.1 + (modS L x.2).sum).fmod 12960000).toNat
noncomputable def numL (L : List Int) : List Nat := ownL.zipIdx.map (numF L)
theorem fmod_nat_of (a : Int) (b : Nat) (hb : 0 < b) : (a.fmod b).toNat < b ∧ ((a.fmod b).toNat : Int) = a.fmod b :=
  have hp : (0 : Int) < (b : Int) := Int.natCast_pos.mpr hb
  have h1 := Int.fmod_nonneg_of_pos a hp
  ⟨(Int.toNat_lt h1).mpr (Int.fmod_lt_of_pos a hp), Int.toNat_of_nonneg h1⟩
theorem numL_lt (L : List Int) : ∀ x ∈ numL L, x < 12960000 := fun x m => by
  obtain ⟨y, u1, rfl⟩ := List.mem_map.mp m
  exact (fmod_nat_of _ 12960000 (by decide)).1
theorem numL_len (L : List Int) : (numL L).length = 7 := rfl
section
variable {C : Cx} {A : Around} {env : Env} {σ σ' : St} {d : D} {L : List Int}
theorem lw_0 (Q : Pr C) (hL : L.length ≤ 63) (h : TR (.fn C A 5 fd17 env) (lwR [some (.lst (L.map .int)), some (.lst (natD (numL L)))]) (execs (lwB 1) env) σ d σ') : TR (.fn C A 5 fd17 env) (lwR [some (.lst (L.map .int))]) (execs (lwB 0) env) σ d σ' := by
  have h1 : (slI none (some 60) none L).length ≤ 63 := Nat.le_trans (slI_len ..) hL
  refine TR_cons (TS_lm0 1 [17, 36] (fun x : Int × Nat => .tup [.int (x.2 : Nat), .int x.1]) (fun x => .int (numF L x : Nat)) ownL.zipIdx (TI_enum (d := .tup (ownL.map .int)) Q.G.enum (by kernel_rfl) (TE_tuple (ac TE_int (ac TE_int (ac TE_int (ac TE_int (ac TE_int (ac TE_int (a1 TE_int))))))) (Nat.le_of_ble_eq_true rfl)) enum_tup) (enumD_map _ _) (by decide) (fun cenv x m =>
    ⟨.t (.cons (i := 17) rfl rfl (.cons (i := 36) rfl rfl (.nil _))), (Le.set rfl).trans (.set rfl), TE.val (TE_bin (TE_bin (tv 36 rfl) (TE_bi Q.G.sum (by kernel_rfl) rfl rfl (a1 (TP.rest made_L (TP_lm [35] (fun i : Int => .int i) (fun i => .int (i.fmod 12960000)) (slI (some (x.2 : Int)) none (some 7) (slI none (some 60) none L)) (TI_of (TE.val (TE_sl (TE.val (TE_sl (tv 0 rfl) TE_part_none (TE_part_some TE_int) TE_part_none .none (.int _) .none (sl_lst (.z _) (by decide) (by rw [List.length_map]; omega))) (congrArg D.lst (slI_eq ..))) (TE_part_some (tv 17 rfl)) TE_part_none (TE_part_some TE_int) (.int _) .none (.int _) (sl_lst (.z _) (by decide) (by rw [List.length_map]; omega))) (congrArg D.lst (slI_eq ..))) iter_lst) rfl (by have := slI_len (some (x.2 : Int)) none (some 7) (slI none (some 60) none L); omega) fun cenv' i hi =>
      ⟨.v (i := 35) rfl rfl, .set rfl, TE_bin (tv 35 rfl) TE_int (bin_fmod (by decide))⟩))) fun q r => bi_sum (ns := modS L x.2) (by unfold modS; rw [List.map_map]; exact .z _) q.o.room.handled q.I r) bin_add) TE_int (bin_fmod (by decide))) (congrArg D.int (fmod_nat_of _ 12960000 (by decide)).2.symm)⟩) rfl rfl) ?_
  exact h
end
end Mine
end
section
open PySem PySem.W PyProof.Rows
namespace Mine
open E2
noncomputable def drawL (ns : List Nat) : List Nat := ns.flatMap fun k => (List.range 4).map fun i => k / 60 ^ i % 60
theorem draw_lt (ns : List Nat) : ∀ x ∈ drawL ns, x < 60 := fun x m => by
  obtain ⟨k, u1, m⟩ := List.mem_flatMap.mp m
  obtain ⟨i, u1, rfl⟩ := List.mem_map.mp m
  exact Nat.mod_lt _ (by decide)
theorem draw_len : ∀ ns : List Nat, (drawL ns).length = 4 * ns.length
  | [] => rfl
  | k :: ns => by
    show (_ ++ drawL ns).length = _
    rw [List.length_append, draw_len ns, List.length_cons, Nat.mul_succ, Nat.add_comm]; rfl
theorem draw_D (ns : List Nat) : (ns.flatMap fun k => ((List.range 4).filter fun u0 => true).map fun i => D.int ((k / 60 ^ i % 60 : Nat) : Int)) = natD (drawL ns) := by
  unfold natD drawL
  rw [List.map_flatMap]; rfl
theorem p60 {i : Nat} (h : i < 4) : (60 : Int) ^ (i : Int).toNat = ((60 ^ i : Nat) : Int) ∧ (60 : Int) ^ (i : Int).toNat ≠ 0 ∧ ((60 : Int) ^ (i : Int).toNat).natAbs < 2 ^ 63 :=
  (by decide : ∀ i : Nat, i < 4 → (60 : Int) ^ (i : Int).toNat = ((60 ^ i : Nat) : Int) ∧ (60 : Int) ^ (i : Int).toNat ≠ 0 ∧ ((60 : Int) ^ (i : Int).toNat).natAbs < 2 ^ 63) i h
theorem draw_v {k i : Nat} (h : i < 4) : D.int (((k : Int).fdiv ((60 : Int) ^ (i : Int).toNat)).fmod 60) = .int ((k / 60 ^ i % 60 : Nat) : Int) := by
  rw [(p60 h).1, fdiv_nat, show (60 : Int) = ((60 : Nat) : Int) from rfl, fmod_nat]
theorem nat_at {ds : List Nat} {i : Nat} {σ : St} (hi : i < ds.length) (hs : i < 2 ^ 62) : IdxOk σ (.lst (natD ds)) (.int (i : Nat)) (.int (ds.getD i 0 : Nat)) :=
  idx_lst (.z _) (by rw [natD, List.getElem?_map, List.getElem?_eq_getElem hi, List.getD_eq_getElem?_getD, List.getElem?_eq_getElem hi]; rfl) (Nat.lt_of_lt_of_le hs (by decide))
noncomputable def knownL : List Str := flagT.map (·.2)
noncomputable def knownS : Str := ⟨#[79, 80, 84, 73, 77, 73, 90, 69, 68, 32, 78, 69, 87, 76, 79, 67, 65, 76, 83, 32, 86, 65, 82, 65, 82, 71, 83, 32, 86, 65, 82, 75, 69, 89, 87, 79, 82, 68, 83, 32, 78, 69, 83, 84, 69, 68, 32, 71, 69, 78, 69, 82, 65, 84, 79, 82, 32, 78, 79, 70, 82, 69, 69, 32, 67, 79, 82, 79, 85, 84, 73, 78, 69, 32, 73, 84, 69, 82, 65, 66, 76, 69, 95, 67, 79, 82, 79, 85, 84, 73, 78, 69, 32, 65, 83, 89, 78, 67, 95, 71, 69, 78, 69, 82, 65, 84, 79, 82]⟩
theorem known_ok : (Nat.ble knownS.length 16777216 && Nat.ble (Builtin.Str.spaceWords knownS (knownS.length + 1)).length 16777216) = true ∧ Txt.words knownS = knownL := by decide +kernel
theorem nm_lo : ∀ p < 10, knownL[p]? = some (nmF p) := by decide +kernel
theorem nm_hi : ∀ p < 33, 10 ≤ p → nmF p = mkS ([48, 120, [49, 50, 52, 56].getD (p % 4) 0] ++ List.replicate (p / 4) 48) := by decide +kernel
section
variable {C : Cx} {A : Around} {env : Env} {σ σ' : St} {d s : D} {ns ds : List Nat} {low : Nat}
theorem lw_1 (Q : Pr C) (hn : ns.length = 7) (h : TR (.fn C A 5 fd17 env) (lwR [some s, some (.lst (natD ns)), some (.lst (natD (drawL ns)))]) (execs (lwB 2) env) σ d σ') : TR (.fn C A 5 fd17 env) (lwR [some s, some (.lst (natD ns))]) (execs (lwB 1) env) σ d σ' := by
  refine TR_cons (TS_asgs (i := 2) (d := .lst (natD (drawL ns))) (TE.val (TP.rest made_L (TP_ll [35, 17] (fun k : Nat => .int (k : Nat)) (List.range 4) (fun i => .int (i : Nat)) (fun k i => .int ((k / 60 ^ i % 60 : Nat) : Int)) (fun u0 u0 => true) ns (TI_of (tv 1 rfl) iter_lst) rfl (by rw [draw_D, natD, List.length_map, draw_len, hn]; decide) fun cenv k m =>
    ⟨.v (i := 35) rfl rfl, .set rfl, TI_range1 (n := 4) Q.G.range (by kernel_rfl) rfl (a1 TE_int) (by decide), fun i hi => ⟨.v (i := 17) rfl rfl, .set rfl, TT_nil, fun u0 => TE.val (TE_bin (TE_bin (tv 35 rfl) (TE_bin TE_int (tv 17 rfl) (bin_pow (by decide) (Int.natCast_nonneg _) (by have := List.mem_range.mp hi; omega))) (bin_fdiv (p60 (List.mem_range.mp hi)).2.1 (p60 (List.mem_range.mp hi)).2.2)) TE_int (bin_fmod (by decide))) (draw_v (List.mem_range.mp hi))⟩⟩)) (congrArg D.lst (draw_D ns))) rfl rfl _) ?_
  exact h
theorem lw_2 (h : TR (.fn C A 5 fd17 env) (lwR [some s, some (.lst (natD ns)), some (.lst (natD ds)), some (.lst (knownL.map .str)), some (.int (ds.getD 25 0 % 28 : Nat))]) (execs (lwB 4) env) σ d σ') (hd : ds.length = 28) : TR (.fn C A 5 fd17 env) (lwR [some s, some (.lst (natD ns)), some (.lst (natD ds))]) (execs (lwB 2) env) σ d σ' := by
  refine TR_cons (TS_asg (i := 3) (TE.val (TE_split0 (x := knownS) (Nat.le_of_ble_eq_true (Bool.and_eq_true_iff.mp known_ok.1).1) (Nat.le_of_ble_eq_true (Bool.and_eq_true_iff.mp known_ok.1).2) TE_str) (congrArg (fun l : List Str => D.lst (l.map .str)) known_ok.2)) rfl rfl rfl) ?_
  refine TR_cons (TS_asg (i := 4) (TE.val (TE_bin (TE_idx (tv 2 rfl) TE_int (nat_at (i := 25) (by omega) (by decide))) TE_int (bin_fmod (by decide))) (congrArg D.int (fmod_nat _ 28))) rfl rfl rfl) ?_
  exact h
end
end Mine
end
section
open PySem PySem.W PyProof.Rows
namespace Mine
open E2
noncomputable def namD (low : Nat) : D := .lst ((List.range 6).map fun i => .str (nmA low i))
noncomputable def cN (ds : List Nat) (v u : Nat) : Nat := 3 * ds.getD (5 * v - 5 + u - if v < u then 1 else 0) 0
noncomputable def costD (ds : List Nat) : D := .lst (.lst [] :: (List.range 5).map fun i => .lst ((List.range 6).map fun u => .int (cN ds (1 + i) u : Nat)))
noncomputable def sgnL : List (List Nat) := [[101, 34, 92, 100], [98, 32, 99], [34, 100], [92, 101], [35, 9], [10, 13]]
noncomputable def sgnD : D := .tup (sgnL.map fun s => .str (mkS s))
theorem nm_lt {p : Nat} : decide ((p : Int) < 10) = decide (p < 10) := decide_eq_decide.mpr (by omega)
theorem rep0 (n : Nat) : reps n (⟨#[48]⟩ : Str) = mkS (List.replicate n 48) := by
  unfold reps
  exact Str.ext' (Array.toList_inj.mp (by simp [mkS, List.flatten_replicate_singleton]))
theorem nm_dig {p : Nat} {σ : St} : IdxOk σ (.str ⟨#[49, 50, 52, 56]⟩) (.int ((p % 4 : Nat) : Int)) (.str (mkS [[49, 50, 52, 56].getD (p % 4) 0])) := by
  have := Nat.mod_lt p (show 0 < 4 by decide)
  generalize p % 4 = r at this
  exact idx_str (x := ⟨#[49, 50, 52, 56]⟩) (c := [49, 50, 52, 56].getD r 0) (by match r, this with
    | 0, _ => rfl
    | 1, _ => rfl
    | 2, _ => rfl
    | 3, _ => rfl) (by omega)
section
variable {C : Cx} {A : Around} {env : Env} {σ σ' : St} {d s a b c : D} {ns ds : List Nat} {low : Nat}
theorem lw_4 (Q : Pr C) (hl : low < 28) (h : TR (.fn C A 5 fd17 env) (lwR [some s, some a, some b, some (.lst (knownL.map .str)), some (.int (low : Nat)), some (namD low)]) (execs (lwB 5) env) σ d σ') : TR (.fn C A 5 fd17 env) (lwR [some s, some a, some b, some (.lst (knownL.map .str)), some (.int (low : Nat))]) (execs (lwB 4) env) σ d σ' := by
  refine TR_cons (TS_lm0 5 [17] (fun i : Nat => .int ((low : Int) + i)) (fun i => .str (nmA low i)) (List.range 6) (TI_range2 (a := low) (n := 6) Q.G.range (by kernel_rfl) rfl (a2 (tv 4 rfl) (TE_bin (tv 4 rfl) TE_int bin_add)) (by omega)) rfl (by decide) (fun cenv i m => ⟨.v (i := 17) rfl rfl, .set rfl, ?_⟩) rfl rfl) ?_
  · have hi := List.mem_range.mp m
    have hp : low + i < 33 := by omega
    have hc : ((low : Int) + i) = ((low + i : Nat) : Int) := rfl
    rw [hc]
    refine TE_ite (q := decide (low + i < 10)) (TB.to (TB_cmp (tv 17 rfl) TE_int cmp_lt rfl) nm_lt) (fun hq => TE_idx (tv 3 rfl) (tv 17 rfl) (idx_lst (.z _) (by rw [List.getElem?_map, nm_lo _ (of_decide_eq_true hq)]; rfl) (by omega))) fun hq => ?_
    have hq := of_decide_eq_false hq
    exact TE.val (TE_bin (TE_bin TE_str (TE_idx TE_str (TE.val (TE_bin (tv 17 rfl) TE_int (bin_fmod (by decide))) (congrArg D.int (fmod_nat _ 4))) nm_dig) (bin_cat (a := [48, 120]) (Nat.le_of_ble_eq_true rfl))) (TE.val (TE_bin TE_str (TE.val (TE_bin (tv 17 rfl) TE_int (bin_fdiv (by decide) (by decide))) (congrArg D.int (fdiv_nat _ 4))) (bin_muls rfl (Int.natCast_nonneg _) (by omega))) (congrArg D.str (rep0 _))) (bin_cat (by rw [Int.toNat_natCast, List.length_replicate]; show 3 + _ ≤ _; omega))) (by rw [Int.toNat_natCast]; exact congrArg D.str (nm_hi _ hp (by omega)).symm)
  · exact h
theorem fl_val {i : Nat} (hl : low < 28) (hi : i < 6) : D.int (1 * 2 ^ ((low : Int) + (i : Int)).toNat) = .int ((2 ^ (low + i) : Nat) : Int) := shl_nat (low + i)
theorem lw_5 (Q : Pr C) (hl : low < 28) (h : TR (.fn C A 5 fd17 env) (lwR [some s, some a, some b, some c, some (.int (low : Nat)), some (namD low), some (.ds (flagsD low))]) (execs (lwB 6) env) σ d σ') : TR (.fn C A 5 fd17 env) (lwR [some s, some a, some b, some c, some (.int (low : Nat)), some (namD low)]) (execs (lwB 5) env) σ d σ' := by
  refine TR_cons (TS_asgs (i := 6) (TP.rest made_D (TP_dm [17, 31] (fun i : Nat => .tup [.int (i : Nat), .str (nmA low i)]) (fun i => .int ((2 ^ (low + i) : Nat) : Int)) (nmA low) (List.range 6) (TI_enum Q.G.enum (by kernel_rfl) (tv 5 rfl) enum_lst) rfl (by decide) (nm_nodup hl (fun j h => List.mem_range.mp h) List.nodup_range) fun cenv i m =>
    ⟨.t (.cons (i := 17) rfl rfl (.cons (i := 31) rfl rfl (.nil _))), (Le.set rfl).trans (.set rfl), TT_nil, fun u0 => ⟨tv 31 rfl, TE.val (TE_bin TE_int (TE_bin (tv 4 rfl) (tv 17 rfl) bin_add) (bin_shl (by decide) (by omega) (by have := List.mem_range.mp m; omega))) (fl_val hl (List.mem_range.mp m))⟩⟩)) rfl rfl _) ?_
  exact h
end
end Mine
end
section
open PySem PySem.W PyProof.Rows
namespace Mine
open E2
theorem co_idx {v u : Nat} (hv : 1 ≤ v) (h6 : v < 6) (hu : u < 6) : 5 * (v : Int) - 5 + (u : Int) - (if decide ((u : Int) > (v : Int)) = true then 1 else 0) = ((5 * v - 5 + u - (if v < u then 1 else 0) : Nat) : Int) :=
  (by decide : ∀ v : Nat, v < 6 → 1 ≤ v → ∀ u : Nat, u < 6 → 5 * (v : Int) - 5 + (u : Int) - (if decide ((u : Int) > (v : Int)) = true then 1 else 0) = ((5 * v - 5 + u - (if v < u then 1 else 0) : Nat) : Int)) v h6 hv u hu
theorem co_lt {v u : Nat} (hv : v < 6) (hu : u < 6) : 5 * v - 5 + u - (if v < u then 1 else 0) < 28 := (by decide : ∀ v < 6, ∀ u < 6, 5 * v - 5 + u - (if v < u then 1 else 0) < 28) v hv u hu
section
variable {C : Cx} {A : Around} {env : Env} {σ σ' : St} {d s a b c e f : D} {ns ds : List Nat} {low : Nat}
theorem lw_6 (Q : Pr C) (hd : ds.length = 28) (h : TR (.fn C A 5 fd17 env) (lwR [some s, some a, some (.lst (natD ds)), some b, some c, some e, some f, some (costD ds), some sgnD, some (.loc σ.length)]) (execs (lwB 9) env) (σ ++ [.lst []]) d σ') : TR (.fn C A 5 fd17 env) (lwR [some s, some a, some (.lst (natD ds)), some b, some c, some e, some f]) (execs (lwB 6) env) σ d σ' := by
  refine TR_cons (TS_asg (i := 7) (TE_bin (a := .lst [.lst []]) (TE_list (a1 (TE_list an (Nat.zero_le _))) (Nat.le_of_ble_eq_true rfl)) (TP.rest made_L (TP_lm [10] (fun i : Nat => .int (((1 : Nat) : Int) + i)) (fun i => .lst ((List.range 6).map fun u => .int (cN ds (1 + i) u : Nat))) (List.range 5) (TI_range2 (a := 1) (n := 5) Q.G.range (by kernel_rfl) rfl (a2 TE_int TE_int) (by decide)) rfl (by decide) fun cenv i m =>
    ⟨.v (i := 10) rfl rfl, .set rfl, TP.rest made_L (TP_lm [12] (fun u : Nat => .int (u : Nat)) (fun u => .int (cN ds (1 + i) u : Nat)) (List.range 6) (TI_range1 (n := 6) Q.G.range (by kernel_rfl) rfl (a1 TE_int) (by decide)) rfl (by decide) fun cenv' u mu => ⟨.v (i := 12) rfl rfl, .set rfl, ?_⟩)⟩)) (bin_addl (Nat.le_of_ble_eq_true rfl))) rfl rfl rfl) ?_
  · have hu := List.mem_range.mp mu
    have hi := List.mem_range.mp m
    have hv : 1 + i < 6 := Nat.add_lt_add_left hi 1
    exact TE.val (TE_bin TE_int (TE_idx (tv 2 rfl) (TE.val (TE_bin (TE_bin (TE_bin (TE_bin TE_int (tv 10 rfl) (bin_mul (.inl (by decide)))) TE_int bin_sub) (tv 12 rfl) bin_add) (TE_bi Q.G.int (by kernel_rfl) rfl rfl (a1 (TE_cmp (tv 12 rfl) (tv 10 rfl) cmp_gt rfl)) fun q r => bi_int q.I r) bin_sub) (congrArg D.int (co_idx (v := 1 + i) (u := u) (Nat.le_add_right 1 i) hv hu))) (nat_at (by rw [hd]; exact co_lt hv hu) (Nat.lt_trans (co_lt hv hu) (by decide)))) (bin_mul (.inl (by decide)))) (congrArg D.int (Int.natCast_mul 3 _).symm)
  refine TR_cons (TS_asg (i := 8) (d := sgnD) (TE_tuple (ac TE_str (ac TE_str (ac TE_str (ac TE_str (ac TE_str (a1 TE_str)))))) (Nat.le_of_ble_eq_true rfl)) rfl rfl rfl) ?_
  exact TR_cons (TS_asg (i := 9) ((TP_list an (Nat.zero_le _)).loc made_L) rfl rfl rfl) h
end
end Mine
end
section
open PySem PySem.W PyProof.Rows
namespace Mine
open E2
noncomputable def callers (v : Nat) : List Nat := (List.range 6).filter fun u => u != v
theorem callers_mem {v u : Nat} : u ∈ callers v ↔ u < 6 ∧ u ≠ v := by rw [callers, List.mem_filter, List.mem_range, bne_iff_ne]
theorem callers_len {v : Nat} (h : v < 6) : (callers v).length = 5 := (by decide : ∀ v < 6, (callers v).length = 5) v h
theorem cN_lt {ds : List Nat} (h : ∀ x ∈ ds, x < 60) (v u : Nat) : cN ds v u < 180 := by
  unfold cN
  generalize 5 * v - 5 + u - (if v < u then 1 else 0) = i
  have : ds.getD i 0 < 60 := by
    rcases Nat.lt_or_ge i ds.length with hi | hi
    · rw [List.getD_eq_getElem?_getD, List.getElem?_eq_getElem hi]
      exact h _ (List.getElem_mem hi)
    · rw [List.getD_eq_getElem?_getD, List.getElem?_eq_none hi]; decide
  omega
noncomputable def octF (ds : List Nat) (k v n : Nat) (l : List Nat) : List Nat := l.foldl (fun o u => o ++ encO (octP (cN ds v u) (k / (n + o.length + 1)))) []
theorem octF_snoc (ds : List Nat) (k v n : Nat) (l : List Nat) (u : Nat) : octF ds k v n (l ++ [u]) = octF ds k v n l ++ encO (octP (cN ds v u) (k / (n + (octF ds k v n l).length + 1))) := List.foldl_append
noncomputable def Enc : List Nat → List Nat → Prop
  | [], o => o = []
  | c :: cs, o => ∃ w r, o = encO (octP c w) ++ r ∧ Enc cs r
theorem octF_go (ds : List Nat) (k v n : Nat) : ∀ (l o : List Nat), ∃ o', l.foldl (fun o u => o ++ encO (octP (cN ds v u) (k / (n + o.length + 1)))) o = o ++ o' ∧ Enc (l.map (cN ds v)) o'
  | [], o => ⟨[], (List.append_nil o).symm, rfl⟩
  | u :: l, o => by
    obtain ⟨o', h1, h2⟩ := octF_go ds k v n l (o ++ encO (octP (cN ds v u) (k / (n + o.length + 1))))
    exact ⟨_, h1.trans (List.append_assoc ..), _, _, rfl, h2⟩
theorem octF_enc (ds : List Nat) (k v n : Nat) (l : List Nat) : Enc (l.map (cN ds v)) (octF ds k v n l) := by
  obtain ⟨o', h1, h2⟩ := octF_go ds k v n l []
  exact (show octF ds k v n l = o' from h1) ▸ h2
theorem encO_len : ∀ l : List (Nat × Nat), (encO l).length = l.length
  | [] => rfl
  | _ :: l => congrArg (· + 1) (encO_len l)
theorem encO_lt {l : List (Nat × Nat)} (h : ∀ q ∈ l, okO q) : ∀ x ∈ encO l, x < 256 := by
  induction l with
  | nil => intro x m; cases m
  | cons p l ih =>
    intro x m
    rcases List.mem_cons.mp m with rfl | m
    · have := h p (.head _); have := mkO_lt l; unfold okO at *; unfold obt; omega
    · exact ih (fun q m => h q (.tail _ m)) x m
theorem Enc.ok : ∀ {cs o : List Nat}, Enc cs o → (∀ c ∈ cs, c < 4096) → (∀ x ∈ o, x < 256) ∧ o.length ≤ 3 * cs.length ∧ cs.length ≤ o.length
  | [], o, h, _ => by cases (show o = [] from h); exact ⟨fun u0 h => (by cases h), Nat.le_refl _, Nat.le_refl _⟩
  | c :: cs, o, h, hc => by
    obtain ⟨w, r, rfl, h2⟩ := h
    have ⟨i1, i2, i3⟩ := Enc.ok h2 fun x m => hc x (.tail _ m)
    obtain ⟨p, q, e, e2, u1, e4⟩ := octP_ok c w (hc c (.head _))
    have j2 := encO_len (octP c w)
    have hl : (octP c w).length = q.length + 1 := by rw [e]; rfl
    refine ⟨fun x hx => ?_, ?_, ?_⟩
    · rcases List.mem_append.mp hx with hx | hx
      · exact encO_lt e4 x hx
      · exact i1 x hx
    · rw [List.length_append, List.length_cons, j2]; omega
    · rw [List.length_append, List.length_cons, j2]; omega
theorem cost_at {ds : List Nat} {v u : Nat} {σ : St} (hv : 1 ≤ v ∧ v < 6) (hu : u < 6) : ∃ x, IdxOk σ (costD ds) (.int (v : Nat)) x ∧ IdxOk σ x (.int (u : Nat)) (.int (cN ds v u : Nat)) := by
  refine ⟨_, idx_lst (.z _) (d := .lst ((List.range 6).map fun u => .int (cN ds v u : Nat))) ?_ (by omega), idx_lst (.z _) ?_ (by omega)⟩
  · obtain ⟨i, rfl⟩ := Nat.exists_eq_add_of_le' hv.1
    show ((List.range 5).map fun i => D.lst ((List.range 6).map fun u => .int (cN ds (1 + i) u : Nat)))[i]? = _
    rw [List.getElem?_map, List.getElem?_range (by omega)]
    show some (D.lst ((List.range 6).map fun u => .int (cN ds (1 + i) u : Nat))) = _
    rw [Nat.add_comm 1 i]
  · rw [List.getElem?_map, List.getElem?_range hu]; rfl
section
variable {C : Cx} {A : Around} {env : Env} {σ σ' : St} {d s a b c e f : D} {ns ds : List Nat} {low v pc : Nat}
noncomputable def ptR (s a b c e f : D) (ns ds : List Nat) (pc v : Nat) (o : Option D) : Rho := lwR [some s, some (.lst (natD ns)), some a, some b, some c, some e, some f, some (costD ds), some sgnD, some (.loc pc), some (.int (v : Nat)), o]
noncomputable def ptS : List Stmt := forB ((pT 17).body.getD 9 (.Pass default))
theorem chg_natD (a b : List Nat) : natD a ++ natD b = natD (a ++ b) := List.map_append.symm
theorem pt1 (Q : Pr C) (hv : 1 ≤ v ∧ v < 6) (hB : ∀ x ∈ ds, x < 60) (hn : ns.length = 7) {W : List D} (hW : W.length ≤ 100) (hp : σ[pc]? = some (.lst W)) :
    TS (.fn C A 5 fd17 env) (ptR s a b c e f ns ds pc v (some (.loc σ.length))) (exec (ptS.getD 1 (.Pass default)) env) (σ ++ [.lst []]) .next (ptR s a b c e f ns ds pc v (some (.loc σ.length))) (σ ++ [.lst (natD (octF ds (ns.getD 6 0) v W.length (callers v)))]) := by
  refine TS_for (TI_of (TP.rest made_L (TP_lf [12] (fun u : Nat => .int (u : Nat)) (fun u => .int (u : Nat)) (fun u => u != v) (List.range 6) (TI_range1 (n := 6) Q.G.range (by kernel_rfl) rfl (a1 TE_int) (by decide)) rfl (by decide) fun cenv u m => ⟨.v (i := 12) rfl rfl, .set rfl, TT_one (TB.to (TB_cmp (tv 12 rfl) (tv 10 rfl) cmp_nei rfl) (congrArg not (Bool.eq_iff_iff.mpr (by rw [beq_iff_eq, beq_iff_eq]; omega)))), fun u0 => tv 12 rfl⟩)) iter_lst)
    (Run.scan0 (R := fun u0 => ptR s a b c e f ns ds pc v (some (.loc σ.length))) (S := fun l => σ ++ [.lst (natD (octF ds (ns.getD 6 0) v W.length l))]) (callers v) rfl fun done u todo he => ?_)
  have hu : u < 6 := (callers_mem.mp (by rw [he]; exact List.mem_append_right _ (.head _))).1
  have hl : done.length < 5 := by have := callers_len hv.2; rw [he, List.length_append, List.length_cons] at this; omega
  have ho := (octF_enc ds (ns.getD 6 0) v W.length done).ok fun x m => by obtain ⟨y, u1, rfl⟩ := List.mem_map.mp m; have := cN_lt hB v y; omega
  rw [List.length_map] at ho
  obtain ⟨x, i1, i2⟩ := cost_at (σ := σ ++ [.lst (natD (octF ds (ns.getD 6 0) v W.length done))]) (ds := ds) hv hu
  have ho2 := ((octF_enc ds (ns.getD 6 0) v W.length (done ++ [u])).ok fun x m => by obtain ⟨y, u1, rfl⟩ := List.mem_map.mp m; have := cN_lt hB v y; omega).2.1
  rw [List.length_map, octF_snoc, List.length_append, List.length_append, List.length_singleton] at ho2
  rw [octF_snoc, ← chg_natD]
  refine ⟨_, _, .v (i := 12) rfl rfl, .inl rfl, TS_cons (TS.st (TS_augl (i := 11) (by kernel_rfl) rfl (call Q.F14 (octets_fn Q.G Q.F14 (c := cN ds v u) (w := ns.getD 6 0 / (W.length + (octF ds (ns.getD 6 0) v W.length done).length + 1))) (a2 (TE_idx (TE_idx (tv 7 rfl) (tv 10 rfl) i1) (tv 12 rfl) i2) (TE.val (TE_bin (TE_idx (tv 1 rfl) TE_int (nat_at (i := 6) (by omega) (by decide))) (TE_bin (TE_bin (TE_bi Q.G.len (by kernel_rfl) rfl rfl (a1 (tv 9 rfl)) fun q r => bi_len (.o (at_app hp)) (by omega) q.I r) (TE_bi Q.G.len (by kernel_rfl) rfl rfl (a1 (tv 11 rfl)) fun q r => bi_len (.o at_len) (by rw [natD, List.length_map]; omega) q.I r) bin_add) TE_int bin_add) (bin_fdiv (by omega) (by rw [natD, List.length_map]; omega))) (by rw [natD, List.length_map]; exact congrArg D.int (fdiv_nat _ _))))) at_len (by rw [natD, natD, List.length_map, List.length_map]; omega) rfl) set_len) (TS_nilf [12])⟩
end
end Mine
end
section
open PySem PySem.W PyProof.Rows
namespace Mine
open E2
noncomputable def wrdF (ds : List Nat) (k : Nat) (l : List Nat) : List (List Nat) := l.foldl (fun W i => W ++ [sgnL.getD (1 + i) [], octF ds k (1 + i) W.length (callers (1 + i))]) []
theorem wrdF_snoc (ds : List Nat) (k : Nat) (l : List Nat) (i : Nat) : wrdF ds k (l ++ [i]) = wrdF ds k l ++ [sgnL.getD (1 + i) [], octF ds k (1 + i) (wrdF ds k l).length (callers (1 + i))] := List.foldl_append
noncomputable def wrdD (W : List (List Nat)) : List D := W.map fun s => .str (mkS s)
theorem wrdF_len (ds : List Nat) (k : Nat) : ∀ l : List Nat, (wrdF ds k l).length = 2 * l.length := fun l => by
  have : ∀ (l : List Nat) (W : List (List Nat)), (l.foldl (fun W i => W ++ [sgnL.getD (1 + i) [], octF ds k (1 + i) W.length (callers (1 + i))]) W).length = W.length + 2 * l.length := fun l => by
    induction l with
    | nil => intro W; rfl
    | cons i l ih => intro W; rw [List.foldl_cons, ih]; simp only [List.length_append, List.length_cons, List.length_nil]; omega
  exact (this l []).trans (Nat.zero_add _)
noncomputable def ptSt (σ : St) (ds : List Nat) (k : Nat) (l : List Nat) : St := σ ++ [.lst (wrdD (wrdF ds k l))] ++ List.replicate l.length .dead
theorem chr_flat : ∀ o : List Nat, (o.map fun c => [c]).flatten = o
  | [] => rfl
  | c :: o => congrArg (c :: ·) (chr_flat o)
section
variable {C : Cx} {A : Around} {env : Env} {σ σ' : St} {d s a b c e f : D} {ns ds : List Nat} {low : Nat}
theorem ptSt_at (l : List Nat) (k : Nat) : (ptSt σ ds k l)[σ.length]? = some (.lst (wrdD (wrdF ds k l))) := at_apps at_len
theorem ptSt_set (l : List Nat) (k i : Nat) : (ptSt σ ds k l ++ [AO.dead]).set σ.length (.lst (wrdD (wrdF ds k (l ++ [i])))) = ptSt σ ds k (l ++ [i]) := by
  unfold ptSt
  rw [List.append_assoc, List.set_append_left _ _ (by rw [List.length_append]; exact Nat.lt_succ_self _), set_len, List.length_append, List.replicate_append_replicate.symm]
  rfl
theorem lw_9 (Q : Pr C) (hB : ∀ x ∈ ds, x < 60) (hn : ns.length = 7)
    (h : TR (.fn C A 5 fd17 env) (lwR [some s, some (.lst (natD ns)), some a, some b, some c, some e, some f, some (costD ds), some sgnD, some (.loc σ.length)]) (execs (lwB 10) env) (ptSt σ ds (ns.getD 6 0) (List.range 5)) d σ') :
    TR (.fn C A 5 fd17 env) (lwR [some s, some (.lst (natD ns)), some a, some b, some c, some e, some f, some (costD ds), some sgnD, some (.loc σ.length)]) (execs (lwB 9) env) (σ ++ [.lst []]) d σ' := by
  refine TR_cons (TS_for (TI_range2 (a := 1) (n := 5) Q.G.range (by kernel_rfl) rfl (a2 TE_int TE_int) (by decide)) (Run.start (σ := ptSt σ ds (ns.getD 6 0) []) (List.append_nil _) (Run.scan0 (R := fun u0 => lwR [some s, some (.lst (natD ns)), some a, some b, some c, some e, some f, some (costD ds), some sgnD, some (.loc σ.length)]) (S := ptSt σ ds (ns.getD 6 0)) (e := fun i : Nat => .int (((1 : Nat) : Int) + i)) (List.range 5) rfl fun done i todo he => ?_))) h
  have hi : i < 5 := List.mem_range.mp (by rw [he]; exact List.mem_append_right _ (.head _))
  have hdl : done.length ≤ 4 := by have := congrArg List.length he; rw [List.length_range, List.length_append, List.length_cons] at this; omega
  have hv : 1 ≤ 1 + i ∧ 1 + i < 6 := by omega
  have hWl : (wrdD (wrdF ds (ns.getD 6 0) done)).length = (wrdF ds (ns.getD 6 0) done).length := List.length_map _
  have hW : (wrdD (wrdF ds (ns.getD 6 0) done)).length ≤ 100 := by rw [hWl, wrdF_len]; omega
  have ho := (octF_enc ds (ns.getD 6 0) (1 + i) (wrdF ds (ns.getD 6 0) done).length (callers (1 + i))).ok fun x m => by obtain ⟨y, u1, rfl⟩ := List.mem_map.mp m; have := cN_lt hB (1 + i) y; omega
  rw [List.length_map, callers_len hv.2] at ho
  have hp1 := pt1 (A := A) (env := env) (s := s) (a := a) (b := b) (c := c) (e := e) (f := f) Q hv hB hn hW (ptSt_at (σ := σ) done (ns.getD 6 0))
  rw [hWl] at hp1
  have hsg : ∀ {σ : St}, IdxOk σ sgnD (.int ((1 + i : Nat) : Int)) (.str (mkS (sgnL.getD (1 + i) []))) := fun {σ} => idx_tup (by
    rw [List.getElem?_map, List.getD_eq_getElem?_getD, List.getElem?_eq_getElem (show 1 + i < sgnL.length from hv.2)]; rfl) (by omega)
  have hoD : (octF ds (ns.getD 6 0) (1 + i) (wrdF ds (ns.getD 6 0) done).length (callers (1 + i))).map (fun c => D.str ⟨#[c]⟩) = (((octF ds (ns.getD 6 0) (1 + i) (wrdF ds (ns.getD 6 0) done).length (callers (1 + i))).map fun c => [c]).map mkS).map .str := by rw [List.map_map, List.map_map]; rfl
  have hq : ∀ {y : AO}, ((ptSt σ ds (ns.getD 6 0) done ++ [y]).set (ptSt σ ds (ns.getD 6 0) done).length .dead)[σ.length]? = some (.lst (wrdD (wrdF ds (ns.getD 6 0) done))) := fun {y} => by rw [set_len]; exact at_app (ptSt_at done _)
  have hz : (wrdD (wrdF ds (ns.getD 6 0) done)).length + [D.str (mkS (sgnL.getD (1 + i) [])), .str (mkS (octF ds (ns.getD 6 0) (1 + i) (wrdF ds (ns.getD 6 0) done).length (callers (1 + i))))].length ≤ 1000000 := Nat.le_trans (Nat.add_le_add_right hW 2) (by decide)
  have hs : ∀ {y : AO}, ((ptSt σ ds (ns.getD 6 0) done ++ [y]).set (ptSt σ ds (ns.getD 6 0) done).length .dead).set σ.length (.lst (wrdD (wrdF ds (ns.getD 6 0) done) ++ [D.str (mkS (sgnL.getD (1 + i) [])), .str (mkS (octF ds (ns.getD 6 0) (1 + i) (wrdF ds (ns.getD 6 0) done).length (callers (1 + i))))])) = ptSt σ ds (ns.getD 6 0) (done ++ [i]) := fun {y} => by
    rw [set_len, ← ptSt_set, wrdF_snoc, wrdD, wrdD, List.map_append]; rfl
  exact ⟨_, _, .v (i := 10) rfl rfl, .inl rfl, TS_cons (TS_asg (i := 11) ((TP_list an (Nat.zero_le _)).loc made_L) rfl rfl rfl) (TS_cons hp1 (TS.frz 11 rfl at_len (.lst _) (TS_cons (TS.st (TS_augl (i := 9) (by kernel_rfl) rfl (TE_list (a2 (TE_idx (tv 8 rfl) (tv 10 rfl) hsg) (TE.val (TE_join (sep := mkS []) (ss := ((octF ds (ns.getD 6 0) (1 + i) (wrdF ds (ns.getD 6 0) done).length (callers (1 + i))).map fun c => [c]).map mkS) (join_ok 1 (fun t m => by obtain ⟨l, q, rfl⟩ := List.mem_map.mp m; obtain ⟨x, u1, rfl⟩ := List.mem_map.mp q; exact Nat.le_refl _) (by rw [List.length_map, List.length_map]; omega)) TE_str (.z _)
    (a1 (TE.val (TP.rest made_L (TP_lm [38] (fun c : Nat => .int (c : Nat)) (fun c => .str ⟨#[c]⟩) (octF ds (ns.getD 6 0) (1 + i) (wrdF ds (ns.getD 6 0) done).length (callers (1 + i))) (TI_of (tv 11 rfl) iter_lst) rfl (by omega) fun cenv x m => ⟨.v (i := 38) rfl rfl, .set rfl, TE_bi Q.G.chr (by kernel_rfl) rfl rfl (a1 (tv 38 rfl)) fun q r => bi_chr (by have := ho.1 x m; omega) q.I r⟩)) (congrArg D.lst hoD)))) (congrArg D.str ((join_empty _).trans (congrArg mkS (chr_flat _)))))) (Nat.le_of_ble_eq_true rfl)) hq hz rfl) hs) (TS_nilf [10, 11]))))⟩
end
end Mine
end
section
open PySem PySem.W PyProof.Rows
namespace Mine
open E2
noncomputable def txtL (W : List (List Nat)) (k : Nat) : List Nat := (W.zipIdx.map fun x => spell x.1 (k / (x.2 + 1))).flatten
theorem spell_len (word : List Nat) (w : Nat) : (spell word w).length ≤ 2 * word.length + 4 := by
  have h1 := escL_len w word 0
  have h2 := encW_len (escL w word 0)
  have h3 := gapL_len w
  unfold spell
  split
  · rw [List.length_cons, List.length_append, List.length_cons]; omega
  · rw [List.length_append]; omega
section
variable {C : Cx} {A : Around} {env : Env} {σ σ' : St} {d s a b c e f g : D} {ns ds : List Nat} {low n : Nat} {W : List (List Nat)}
theorem lw_10 (Q : Pr C) (hn : ns.length = 7) (hW : W.length ≤ 100) (hw : ∀ x ∈ W ++ [sgnL.getD 0 []], x.length ≤ 1000) (hp : σ[n]? = some (.lst (wrdD W)))
    (h : TR (.fn C A 5 fd17 env) (lwR [some s, some (.lst (natD ns)), some a, some b, some c, some e, some f, some g, some sgnD, some (.lst (wrdD W)), none, none, none, some (.str (mkS (txtL (W ++ [sgnL.getD 0 []]) (ns.getD 6 0))))]) (execs (lwB 11) env) (σ.set n .dead) d σ') :
    TR (.fn C A 5 fd17 env) (lwR [some s, some (.lst (natD ns)), some a, some b, some c, some e, some f, some g, some sgnD, some (.loc n)]) (execs (lwB 10) env) σ d σ' := by
  have hz : (W ++ [sgnL.getD 0 []]).length ≤ 101 := by rw [List.length_append]; exact Nat.succ_le_succ hW
  have hl : (wrdD W).length = W.length := List.length_map _
  have hss : ((W ++ [sgnL.getD 0 []]).zipIdx.map fun x => D.str (mkS (spell x.1 (ns.getD 6 0 / (x.2 + 1))))) = (((W ++ [sgnL.getD 0 []]).zipIdx.map fun x => spell x.1 (ns.getD 6 0 / (x.2 + 1))).map mkS).map .str := by rw [List.map_map, List.map_map]; rfl
  have hm : ∀ {x : List Nat × Nat}, x ∈ (W ++ [sgnL.getD 0 []]).zipIdx → x.1.length ≤ 1000 ∧ x.2 < 101 := fun {x} m => by
    have := List.mem_zipIdx m
    refine ⟨hw _ ?_, by omega⟩
    rw [this.2.2]; exact List.getElem_mem _
  refine TR.frz 9 rfl hp (.lst _) (TR_cons (TS_asg (i := 13) (d := .str (mkS (txtL (W ++ [sgnL.getD 0 []]) (ns.getD 6 0)))) (TE.val (TE_join (sep := mkS []) (ss := ((W ++ [sgnL.getD 0 []]).zipIdx.map fun x => spell x.1 (ns.getD 6 0 / (x.2 + 1))).map mkS) (join_ok 2004 (fun t m => by
    obtain ⟨l, q, rfl⟩ := List.mem_map.mp m
    obtain ⟨x, q2, rfl⟩ := List.mem_map.mp q
    have := spell_len x.1 (ns.getD 6 0 / (x.2 + 1))
    have := (hm q2).1
    rw [mkS_len, mkS_len]; show _ + 0 ≤ _; omega) (by rw [List.length_map, List.length_map, List.length_zipIdx]; omega)) TE_str (.z _)
    (a1 (TE.val (TP.rest made_L (TP_lm [17, 39] (fun x : List Nat × Nat => .tup [.int (x.2 : Nat), .str (mkS x.1)]) (fun x => .str (mkS (spell x.1 (ns.getD 6 0 / (x.2 + 1))))) (W ++ [sgnL.getD 0 []]).zipIdx (TI_enum Q.G.enum (by kernel_rfl) (TE_bin (tv 9 rfl) (TE_list (a1 (TE_idx (tv 8 rfl) TE_int (idx_tup (j := 0) (d := .str (mkS (sgnL.getD 0 []))) rfl (by decide)))) (Nat.le_of_ble_eq_true rfl)) (bin_addl (by rw [hl]; show _ + 1 ≤ _; omega))) enum_lst) (by rw [← enumD_map (fun s => .str (mkS s)), List.map_append]; rfl) (by rw [List.length_zipIdx]; omega) fun cenv x m =>
      ⟨.t (.cons (i := 17) rfl rfl (.cons (i := 39) rfl rfl (.nil _))), (Le.set rfl).trans (.set rfl), call Q.F13 (spelled_fn Q.G Q.F13 (hm m).1) (a2 (tv 39 rfl) (TE.val (TE_bin (TE_idx (tv 1 rfl) TE_int (nat_at (i := 6) (by omega) (by decide))) (TE_bin (tv 17 rfl) TE_int bin_add) (bin_fdiv (by omega) (by have := (hm m).2; omega))) (congrArg D.int (fdiv_nat _ (x.2 + 1)))))⟩)) (congrArg D.lst hss)))) (congrArg D.str (join_empty _))) rfl rfl rfl) ?_)
  exact h
end
end Mine
end
section
open PySem PySem.W PyProof.Rows
namespace Mine
open E2
noncomputable def lexX (ct : Addr) (n : Nat) : Lx := ⟨ct, n + 2, n, n + 1, n + 3⟩
noncomputable def lexT (ct : Addr) (n : Nat) (text : List Nat) : St := [.it (text.map sg), .fo (rdF n), .ins ct ((lexX ct n).fs 1), .lst []]
theorem lexX_nd (ct : Addr) (n : Nat) : (lexX ct n).Nd := ⟨by show n + 2 ≠ n; omega, by show n + 2 ≠ n + 3; omega, by show n + 2 ≠ n + 1; omega, by show n ≠ n + 3; omega, by show n ≠ n + 1; omega, by show n + 3 ≠ n + 1; omega⟩
theorem at_tail {σ J : St} (i : Nat) {o : AO} (h : J[i]? = some o) : (σ ++ J)[σ.length + i]? = some o := (List.getElem?_append_right (Nat.le_add_right ..)).trans (by rw [Nat.add_sub_cancel_left]; exact h)
theorem lexT_at (ct : Addr) (text : List Nat) (σ : St) : LX (lexX ct σ.length) 1 text [] (σ ++ lexT ct σ.length text) := ⟨at_tail 2 rfl, at_tail 0 rfl, at_tail 3 rfl, at_tail 1 rfl⟩
section
variable {C : Cx} {A : Around} {env : Env} {σ σ' : St} {d s a b c e f g h' i' j : D} {text : List Nat} {t : Nat}
theorem lw_11 (Q : Pr C) (hl : LamAt C 1 lam1) (F0 : Meth C Q.lx "__init__" (pM 10 0).params (pM 10 0).scope (pM 10 0).body Q.l0) (hz : text.length ≤ 1000000) (ht : σ[t]? = some (.tab Q.p12 []))
    (h : TR (.fn C A 5 fd17 env) (lwR [some s, some a, some b, some c, some e, some f, some g, some h', some i', some j, none, none, none, some (.str (mkS text)), some (.loc (σ.length + 2))]) (execs (lwB 12) env) (σ.set t (.tab Q.p12 lnS) ++ lexT Q.lx σ.length text) d σ') :
    TR (.fn C A 5 fd17 env) (lwR [some s, some a, some b, some c, some e, some f, some g, some h', some i', some j, none, none, none, some (.str (mkS text))]) (execs (lwB 11) env) σ d σ' := by
  have hlen : (σ.set t (.tab Q.p12 lnS) ++ [AO.it (text.map sg), AO.fo (rdF σ.length)]).length = σ.length + 2 := by rw [List.length_append, List.length_set]; rfl
  have hL : (σ.set t (.tab Q.p12 lnS) ++ [AO.it (text.map sg), AO.fo (rdF σ.length)] ++ [AO.ins Q.lx []])[(lexX Q.lx σ.length).L]? = some (.ins Q.lx []) := by
    have q := at_len (l := σ.set t (.tab Q.p12 lnS) ++ [AO.it (text.map sg), AO.fo (rdF σ.length)]) (a := AO.ins Q.lx [])
    rwa [hlen] at q
  have hi := ninit_fn (x := lexX Q.lx σ.length) (σ := σ.set t (.tab Q.p12 lnS) ++ [AO.it (text.map sg), AO.fo (rdF σ.length)] ++ [AO.ins Q.lx []]) Q.G Q.X F0 hL (by rw [List.length_append, hlen]; rfl)
  have hs : (σ.set t (.tab Q.p12 lnS) ++ [AO.it (text.map sg), AO.fo (rdF σ.length)] ++ [AO.ins Q.lx []]).set (lexX Q.lx σ.length).L (.ins Q.lx ((lexX Q.lx σ.length).fs 1)) ++ [AO.lst []] = σ.set t (.tab Q.p12 lnS) ++ lexT Q.lx σ.length text := by
    rw [show (lexX Q.lx σ.length).L = (σ.set t (.tab Q.p12 lnS) ++ [AO.it (text.map sg), AO.fo (rdF σ.length)]).length from hlen.symm, set_len, List.append_assoc, List.append_assoc]; rfl
  refine TR_cons (TS_asg (i := 14) (TE.to (TE_new (j := 1) (by rw [hlen]; exact hi) (Nat.le_of_ble_eq_true rfl) Q.lg Q.lnw (by kernel_rfl) rfl (a1 (call Q.F12 (stream_fn Q.G Q.F12 Q.T12 hl hz ht) (a1 (tv 13 rfl))))) ⟨congrArg D.loc hlen, hs⟩) rfl rfl rfl) ?_
  exact h
end
end Mine
end
section
open PySem PySem.W PyProof.Rows
namespace Mine
open E2
noncomputable def dEnv (s : Scope) : Env := { scope := s, locals := 0, globals := 0, cells := [] }
theorem sw_env {ts : List Expr} {e : Expr} {env env' : Env} (h : env.scope = env'.scope) : swappedStores ts e env = swappedStores ts e env' := by
  obtain ⟨s, u1, u2, u3, u4, u5, u6, u7, u8⟩ := env
  obtain ⟨s', u1, u2, u3, u4, u5, u6, u7, u8⟩ := env'
  cases (show s = s' from h)
  rfl
section
variable {K : Ctx} {ρ ρ' : Rho} {σ σ' : St} {elts : List Expr} {kd : Nat} {q pos : Pos} {e : Expr} {d : D}
theorem TS_asgT0 (h : TE K ρ (eval e K.env) σ d σ') (ht : Asg K (.Tuple elts kd q) d ρ ρ') (hw : swappedStores [.Tuple elts kd q] e (dEnv K.fd.scope) = pure none := by kernel_rfl) (hs : swapsWithSole [.Tuple elts kd q] e pos.line K.env = pure false := by rfl) :
    TS K ρ (exec (.Assign [.Tuple elts kd q] e pos) K.env) σ .next ρ' σ' := fun u0 u0 p => TS_asgT h ht hs ((sw_env p.o.scope).trans hw) p
end
section
variable {C : Cx} {A : Around} {env : Env} {σ σ' : St} {d a b c e f g h' i' j l : D} {s : List (Option D)} {low : Nat}
theorem lw_12 {r : D} (h : TR (.fn C A 5 fd17 env) (lwR [some a, some b, some c, some d, some e, some f, some g, some h', some i', some j, none, none, none, some l, some (.loc low), some (.ds []), some (.loc σ.length)]) (execs (lwB 13) env) (σ ++ [.ds []]) r σ') :
    TR (.fn C A 5 fd17 env) (lwR [some a, some b, some c, some d, some e, some f, some g, some h', some i', some j, none, none, none, some l, some (.loc low)]) (execs (lwB 12) env) σ r σ' :=
  TR_cons (TS_asgT0 (TE_tuple (a2 (TP.rest made_D TP_d0) (TP_d0.loc made_D)) (Nat.le_of_ble_eq_true rfl)) (.t (.cons (i := 15) rfl rfl (.cons (i := 16) rfl rfl (.nil _))))) h
end
end Mine
end
section
open PySem PySem.W PyProof.Rows
namespace Mine
open E2
noncomputable def PWs (ds : List Nat) : List Nat → List (List Nat) → Prop
  | [], W => W = []
  | v :: vs, W => ∃ o W', W = sgnL.getD v [] :: o :: W' ∧ Enc ((callers v).map (cN ds v)) o ∧ PWs ds vs W'
theorem PWs.ok {ds : List Nat} (hB : ∀ x ∈ ds, x < 60) : ∀ {vs : List Nat} {W : List (List Nat)}, PWs ds vs W → (∀ v ∈ vs, v < 6) → W.length = 2 * vs.length ∧ ∀ w ∈ W, w.length ≤ 20 ∧ w ≠ []
  | [], W, h, _ => by
    have h : W = [] := h
    subst h; exact ⟨rfl, fun u0 h => (by cases h)⟩
  | v :: vs, W, h, h6 => by
    obtain ⟨o, W', rfl, h2, h3⟩ := h
    have ⟨i1, i2⟩ := PWs.ok hB h3 fun x m => h6 x (.tail _ m)
    have ⟨_, j2, j3⟩ := Enc.ok h2 (by
      intro c hc
      obtain ⟨u, u1, rfl⟩ := List.mem_map.mp hc
      have := cN_lt hB v u
      omega)
    have hv := h6 v (.head _)
    rw [List.length_map, callers_len hv] at j2 j3
    refine ⟨by simp [i1]; omega, fun w hw => ?_⟩
    rcases List.mem_cons.mp hw with rfl | hw
    · have : ∀ v < 6, (sgnL.getD v []).length ≤ 20 ∧ sgnL.getD v [] ≠ [] := by decide
      exact this v hv
    · rcases List.mem_cons.mp hw with rfl | hw
      · exact ⟨by omega, fun e => by rw [e] at j3; simp at j3⟩
      · exact i2 w hw
theorem wrdF_go (ds : List Nat) (k : Nat) : ∀ (l : List Nat) (W : List (List Nat)), ∃ W', l.foldl (fun W i => W ++ [sgnL.getD (1 + i) [], octF ds k (1 + i) W.length (callers (1 + i))]) W = W ++ W' ∧ PWs ds (l.map (1 + ·)) W'
  | [], W => ⟨[], (List.append_nil W).symm, rfl⟩
  | i :: l, W => by
    obtain ⟨W', h1, h2⟩ := wrdF_go ds k l (W ++ [sgnL.getD (1 + i) [], octF ds k (1 + i) W.length (callers (1 + i))])
    exact ⟨_, h1.trans (List.append_assoc ..), _, _, rfl, octF_enc ds k (1 + i) W.length (callers (1 + i)), h2⟩
theorem wrdF_PW (ds : List Nat) (k : Nat) : PWs ds (List.range' 1 5) (wrdF ds k (List.range 5)) := by
  obtain ⟨W', h1, h2⟩ := wrdF_go ds k (List.range 5) []
  exact (show wrdF ds k (List.range 5) = W' from h1) ▸ h2
noncomputable def txt (n6 : Nat) : List (List Nat) → Nat → List Nat
  | [], _ => []
  | w :: ws, i => spell w (n6 / (i + 1)) ++ txt n6 ws (i + 1)
theorem txt_zip (n6 : Nat) : ∀ (ws : List (List Nat)) (i : Nat), ((ws.zipIdx i).map fun p => spell p.1 (n6 / (p.2 + 1))).flatten = txt n6 ws i
  | [], _ => rfl
  | w :: ws, i => by
    rw [List.zipIdx_cons, List.map_cons, List.flatten_cons, txt_zip n6 ws (i + 1)]; rfl
theorem txt_len (n6 : Nat) : ∀ (ws : List (List Nat)) (i : Nat), (∀ w ∈ ws, w.length ≤ 20) → (txt n6 ws i).length ≤ 44 * ws.length
  | [], _, _ => by simp [txt]
  | w :: ws, i, h => by
    have h1 := spell_len w (n6 / (i + 1))
    have h2 := h w (.head _)
    have h3 := txt_len n6 ws (i + 1) fun x m => h x (.tail _ m)
    simp only [txt, List.length_append, List.length_cons]
    omega
end Mine
end
section
open PySem PySem.W PyProof.Rows
namespace Mine
open E2
theorem kget_app {l : List (Str × D)} {k : Str} {d : D} (h : k ∉ l.map (·.1)) : kget (l ++ [(k, d)]) k = some d := by
  induction l with
  | nil => exact if_pos rfl
  | cons p l ih =>
    obtain ⟨j, e⟩ := p
    exact (if_neg fun (q : j = k) => h (q ▸ .head _)).trans (ih fun m => h (.tail _ m))
theorem kset_app {l : List (Str × D)} {k : Str} {d e : D} (h : k ∉ l.map (·.1)) : kset (l ++ [(k, d)]) k e = l ++ [(k, e)] := by
  induction l with
  | nil => exact if_pos rfl
  | cons p l ih =>
    obtain ⟨j, x⟩ := p
    exact (if_neg fun (q : j = k) => h (q ▸ .head _)).trans (congrArg ((j, x) :: ·) (ih fun m => h (.tail _ m)))
theorem addC_one {l : List (Str × Int)} {k : Str} {c : Int} (h : k ∉ l.map (·.1)) : addC l [(k, c)] = l ++ [(k, c)] := by
  have : aget l k = none := by
    cases e : aget l k with
    | none => rfl
    | some d => exact absurd (aget_mem.mp ⟨d, e⟩) h
  show aset l k ((aget l k).getD 0 + c) = _
  rw [this, aset_app _ _ _ h]
  exact congrArg (fun c => l ++ [(k, c)]) (Int.zero_add c)
structure Lw where
  s : D
  ns : D
  dr : D
  kn : D
  lo : D
  nm : D
  fl : D
  co : D
  pa : D
  tx : D
  L : Nat
  tb : Nat
noncomputable def Lw.r (x : Lw) (callee place left : Option D) : Rho := lwR [some x.s, some x.ns, some x.dr, some x.kn, some x.lo, some x.nm, some x.fl, some x.co, some sgnD, some x.pa, callee, none, none, some x.tx, some (.loc x.L), some (.ds []), some (.loc x.tb), place, left]
noncomputable def rdP : List Stmt := forB ((pT 17).body.getD 13 (.Pass default))
noncomputable def rdB : List Stmt := forB (rdP.getD 2 (.Pass default))
noncomputable def costL (low : Nat) (ds : List Nat) (v : Nat) (l : List Nat) : List (Str × Int) := l.map fun u => (nmA low u, ((cN ds v u : Nat) : Int))
section
variable {C : Cx} {low v ic : Nat} {ds : List Nat} {X : Lw} {pl : Option D} {T : List (Str × D)} {all : List Nat}
noncomputable def rowT (low : Nat) (ds : List Nat) (v : Nat) (T : List (Str × D)) (l : List Nat) : List (Str × D) := T ++ [(nmA low v, .ds (intD (costL low ds v l)))]
structure R1 (low : Nat) (ds : List Nat) (v ic tb : Nat) (T : List (Str × D)) (all us done o : List Nat) (σ : St) : Prop where
  ha : done ++ us = all
  he : Enc (us.map (cN ds v)) o
  h1 : σ[ic]? = some (.it (natD o))
  h2 : σ[tb]? = some (.ds (rowT low ds v T done))
inductive R1O (C : Cx) (low : Nat) (ds : List Nat) (v ic : Nat) (X : Lw) (pl : Option D) (T : List (Str × D)) (all us : List Nat) (σ : St) : Prop
  | mk (σ' : St) (go : ∀ {A env p}, Run (.fn C A 5 fd17 env) Nl (.Name "caller" p) rdB [] us.length (us.map fun u => .str (nmA low u)) (X.r (some (.str (nmA low v))) pl (some (.loc ic))) σ .next (X.r (some (.str (nmA low v))) pl (some (.loc ic))) σ') (h1 : σ'[ic]? = some (.it [])) (h2 : σ'[X.tb]? = some (.ds (rowT low ds v T all))) (F : Fm [ic, X.tb] σ σ')
theorem costL_keys {l : List Nat} : (costL low ds v l).map (·.1) = l.map (nmA low) := List.map_map
theorem rd1 (Q : Pr C) (hl : low < 28) (hv : v < 6) (hB : ∀ x ∈ ds, x < 60) (hT : nmA low v ∉ T.map (·.1)) (hTl : T.length ≤ 100) (hit : ic ≠ X.tb) (h6 : ∀ u ∈ all, u < 6) (hnd : all.Nodup) (hlen : all.length ≤ 6) : ∀ (us done : List Nat) (o : List Nat) (σ : St), R1 low ds v ic X.tb T all us done o σ → R1O C low ds v ic X pl T all us σ
  | [], done, o, σ, h => by
    cases (show o = [] from h.he)
    exact ⟨σ, .done (.none _) TS_nil, h.h1, by rw [← h.ha, List.append_nil]; exact h.h2, Fm.refl _ _⟩
  | u :: us, done, o, σ, h => by
    have hu := h6 u (h.ha ▸ List.mem_append_right _ (.head _))
    have hcl : cN ds v u < 4096 := Nat.lt_trans (cN_lt hB v u) (by decide)
    obtain ⟨w, r, rfl, he⟩ := h.he
    obtain ⟨p, q, e, e2, e3, e4⟩ := octP_ok (cN ds v u) w hcl
    have h1 := h.h1
    rw [e] at h1 e4
    have hp := parse_fn (rest := natD r) Q.G Q.F8 hcl e3 e4 (h1.trans (congrArg (fun l => some (AO.it l)) List.map_append))
    have hn := h.ha ▸ hnd
    have hd6 : ∀ x ∈ done, x < 6 := fun x m => h6 x (h.ha ▸ List.mem_append_left _ m)
    have hkey : nmA low u ∉ (costL low ds v done).map (·.1) := by
      rw [costL_keys]
      intro m
      obtain ⟨x, hx, ex⟩ := List.mem_map.mp m
      exact (List.nodup_append.mp hn).2.2 u (nmA_inj hl (hd6 x hx) hu ex ▸ hx) u (.head _) rfl
    have hdl : done.length ≤ 6 := Nat.le_trans (by rw [← h.ha, List.length_append]; exact Nat.le_add_right _ _) hlen
    have hadd := addc_fn (σ := σ.set ic (.it (natD r))) Q.G Q.F3 (costL low ds v done) [(nmA low u, ((cN ds v u : Nat) : Int))] (by rw [costL_keys]; exact nm_nodup hl hd6 (List.nodup_append.mp hn).1) (by rw [costL, List.length_map]; exact Nat.le_trans (Nat.succ_le_succ hdl) (by decide))
    rw [addC_one hkey, show costL low ds v done ++ [(nmA low u, ((cN ds v u : Nat) : Int))] = costL low ds v (done ++ [u]) from (List.map_append (f := fun u => (nmA low u, ((cN ds v u : Nat) : Int))) (l₁ := done) (l₂ := [u])).symm] at hadd
    have hti : (σ.set ic (.it (natD r)))[X.tb]? = some (.ds (rowT low ds v T done)) := (List.getElem?_set_ne hit).trans h.h2
    obtain ⟨σ', w1, w2, w3, w4⟩ := rd1 Q hl hv hB hT hTl hit h6 hnd hlen us (done ++ [u]) r (((σ.set ic (.it (natD r))) ++ [AO.dead]).set X.tb (.ds (rowT low ds v T (done ++ [u])))) ⟨(List.append_assoc ..).trans h.ha, he, (List.getElem?_set_ne hit.symm).trans (at_app (get_set h1)), get_set (at_app hti)⟩
    exact ⟨σ', .next (.some _ _ _) (.v (i := 12) rfl rfl) (TS_cons (TS.st (TS_seti (call Q.F3 hadd (a2 (TE_idx (tv 16 rfl) (tv 10 rfl) (idx_ds (.o h.h2) (kget_app hT))) (TP.rest made_D (TP_ds1 (tv 12 rfl) (call Q.F8 hp (a1 (tv 18 rfl))))))) (tv 16 rfl) (tv 10 rfl) (at_app hti) (by unfold rowT; rw [List.length_append]; exact Nat.le_trans (Nat.succ_le_succ hTl) (by decide))) (congrArg (fun l => List.set _ _ (AO.ds l)) (kset_app hT))) (TS_nilf [12])) w1, w2, w3, (((Fm.set _ _ (.inl (.head _))).trans (Fm.app _ _ _)).trans (Fm.set _ _ (.inl (.tail _ (.head _))))).trans w4⟩
end
end Mine
end
section
open PySem PySem.W PyProof.Rows
namespace Mine
open E2
theorem Fm.cut {S T : List Nat} {a b c : St} (h : Fm S a b) (k : Fm T b c) (hT : ∀ n ∈ T, n ∈ S ∨ a.length ≤ n) : Fm S a c :=
  ⟨Nat.le_trans h.1 k.1, fun n hn hs => (k.2 n (Nat.lt_of_lt_of_le hn h.1) fun m => (hT n m).elim hs fun z => by omega).trans (h.2 n hn hs)⟩
theorem sgn_ix : ∀ v < 6, (sgnL.map mkS)[v]? = some (mkS (sgnL.getD v [])) ∧ ∀ m < v, (sgnL.map mkS)[m]? ≠ some (mkS (sgnL.getD v [])) := by decide
theorem sgn_ok : ∀ v < 6, sgnL.getD v [] ≠ [] ∧ (sgnL.getD v []).length ≤ 20 := by decide
theorem spell_eq (word : List Nat) (w : Nat) : spell word w = took word w ++ left w := by
  unfold spell took left
  split
  · show 34 :: _ = 34 :: _ ++ _
    rw [List.cons_append, List.append_assoc]; rfl
  · rename_i h
    obtain ⟨c, r, e⟩ := gapL_ne h
    rw [e, List.append_assoc]; rfl
theorem left_ws (w : Nat) : ∀ c ∈ left w, isWs c = true := fun c hc => by
  unfold left at hc
  split at hc
  · exact gapL_ws w c hc
  · exact gapL_ws w c (List.mem_of_mem_tail hc)
inductive Got (C : Cx) (l2 : Addr) (x : Lx) (word : List Nat) (tot : Nat) (cs : List Nat) (σ : St) : Prop
  | mk (σ' : St) (ln' : Nat) (g : FnTo C 4 l2 [.loc x.L] σ (.str (mkS word)) σ') (X : LX x ln' cs [] σ') (F : Fm [x.L, x.IT] σ σ') (l : ln' + nls cs = tot)
theorem LX.get' {C : Cx} {x : Lx} {ln : Nat} {pre : List Nat} {σ : St} (Q : Pr C) (hx : x.ct = Q.lx) {word rest : List Nat} {w : Nat} (X : LX x ln (pre ++ (spell word w ++ rest)) [] σ) (hn : x.Nd) (hpre : ∀ c ∈ pre, isWs c = true) (hw0 : word ≠ []) (hwl : word.length ≤ 1000) : Got C Q.l2 x word (ln + nls (pre ++ (spell word w ++ rest))) (left w ++ rest) σ := by
  obtain ⟨σ', h1, h2, h3⟩ := X.get Q hx hn hpre hw0 hwl
  refine ⟨σ', _, h1, h2, h3, ?_⟩
  rw [spell_eq, List.append_assoc, ← List.append_assoc pre, nls_app (pre ++ _), Nat.add_assoc]
section
variable {C : Cx} {A : Around} {env : Env} {low v : Nat} {ds o : List Nat} {X : Lw} {x : Lx} {σ σ1 σ2 : St} {pl : Option D} {k ln ln1 : Nat} {cs cs1 : List Nat}
theorem rd_a0 (Q : Pr C) (hx : x.ct = Q.lx) (hL : X.L = x.L) (hnm : X.nm = namD low) (hv : v < 6) (ho : o.length ≤ 1000) (l0 : σ[x.L]? = some (.ins x.ct (x.fs ln))) (l1 : σ1[x.L]? = some (.ins x.ct (x.fs ln1))) (g1 : FnTo C 4 Q.l2 [.loc x.L] σ (.str (mkS (sgnL.getD v []))) σ1) (g2 : FnTo C 4 Q.l2 [.loc x.L] σ1 (.str (mkS o)) σ2) :
    TS (.fn C A 5 fd17 env) (X.r none (some (.int (k : Nat))) none) (exec (rdP.getD 0 (.Pass default)) env) σ .next (X.r (some (.str (nmA low v))) (some (.int (k : Nat))) (some (.loc σ2.length))) (σ2 ++ [.it (natD o)]) := by
  have hlex : X.r none (some (.int (k : Nat))) none = X.r none (some (.int (k : Nat))) none := rfl
  have hLd : D.loc X.L = .loc x.L := congrArg D.loc hL
  refine TS_asgT0 (d := .tup [.str (nmA low v), .loc σ2.length]) (TE_tuple (a2 (TE_idx (tv 5 rfl) (TE_tindex (ss := sgnL.map mkS) (j := v) (sgn_ix v hv).1 (sgn_ix v hv).2 (tv 8 rfl) (a1 (TE_mcall g1 (Nat.le_of_ble_eq_true rfl) (hx ▸ Q.X.gf) Q.X.gt.isFn rfl (TE.val (tv 14 rfl) hLd) l0 Lx.no_get an))) (hnm ▸ idx_lst (.z _) (by rw [List.getElem?_map, List.getElem?_range hv]; rfl) (by omega)))
    (TE_bi Q.G.iter (by kernel_rfl) rfl rfl (a1 (TP.rest made_L (TP_lm [37] sg (fun c : Nat => .int (c : Nat)) o (TI_of (TE_mcall g2 (Nat.le_of_ble_eq_true rfl) (hx ▸ Q.X.gf) Q.X.gt.isFn rfl (TE.val (tv 14 rfl) hLd) l1 Lx.no_get an) iter_str) rfl (by omega) fun cenv c m => ⟨.v (i := 37) rfl rfl, .set rfl, TE_bi Q.G.ord (by kernel_rfl) rfl rfl (a1 (tv 37 rfl)) fun q r => bi_ord q.I r⟩))) fun q r => bi_iter q.I r)) (Nat.le_of_ble_eq_true rfl)) (.t (.cons (i := 10) rfl rfl (.cons (i := 18) rfl rfl (.nil _))))
end
end Mine
end
section
open PySem PySem.W PyProof.Rows
namespace Mine
open E2
section
variable {C : Cx} {low n6 : Nat} {ds : List Nat} {X : Lw} {x : Lx}
noncomputable def rowL (low : Nat) (ds : List Nat) (v : Nat) : List (Str × Int) := costL low ds v (callers v)
structure R2 (low n6 : Nat) (ds : List Nat) (tb : Nat) (x : Lx) (tot : Nat) (vs : List Nat) (i : Nat) (T : List (Str × D)) (W : List (List Nat)) (pre : List Nat) (ln : Nat) (σ : St) : Prop where
  h6 : ∀ v ∈ vs, 1 ≤ v ∧ v < 6
  nd : vs.Nodup
  hT : ∀ v ∈ vs, nmA low v ∉ T.map (·.1)
  hTl : T.length + vs.length ≤ 50
  hW : PWs ds vs W
  hp : ∀ c ∈ pre, isWs c = true
  XX : LX x ln (pre ++ txt n6 (W ++ [sgnL.getD 0 []]) i) [] σ
  ht : σ[tb]? = some (.ds T)
  l : ln + nls (pre ++ txt n6 (W ++ [sgnL.getD 0 []]) i) = tot
inductive R2O (C : Cx) (low n6 : Nat) (ds : List Nat) (X : Lw) (x : Lx) (tot : Nat) (vs : List Nat) (i : Nat) (T : List (Str × D)) (σ : St) : Prop
  | mk (σ' : St) (pre : List Nat) (ln : Nat) (go : ∀ {A env p}, Run (.fn C A 5 fd17 env) Nl (.Name "place" p) rdP [] vs.length (vs.map fun k => .int ((k - 1 : Nat) : Int)) (X.r none none none) σ .next (X.r none none none) σ') (hp : ∀ c ∈ pre, isWs c = true) (XX : LX x ln (pre ++ txt n6 [sgnL.getD 0 []] (i + 2 * vs.length)) [] σ') (l : ln + nls (pre ++ txt n6 [sgnL.getD 0 []] (i + 2 * vs.length)) = tot) (ht : σ'[X.tb]? = some (.ds (T ++ vs.map fun v => (nmA low v, .ds (intD (rowL low ds v)))))) (F : Fm [x.L, x.IT, X.tb] σ σ')
theorem rd2 (Q : Pr C) (hx : x.ct = Q.lx) (hn : x.Nd) (hL : X.L = x.L) (hnm : X.nm = namD low) (hl : low < 28) (hB : ∀ x ∈ ds, x < 60) (htb : X.tb ∉ x.cells) {tot : Nat} : ∀ (vs : List Nat) (i : Nat) (T : List (Str × D)) (W : List (List Nat)) (pre : List Nat) (ln : Nat) (σ : St), R2 low n6 ds X.tb x tot vs i T W pre ln σ → R2O C low n6 ds X x tot vs i T σ
  | [], i, T, W, pre, ln, σ, h => by
    obtain ⟨u1, u2, u3, u4, hW, hp, XX, ht, l⟩ := h
    cases (show W = [] from hW)
    exact ⟨σ, pre, ln, .done (.none _) TS_nil, hp, XX, l, by rw [List.map_nil, List.append_nil]; exact ht, Fm.refl _ _⟩
  | v :: vs, i, T, W, pre, ln, σ, h => by
    obtain ⟨h6, nd, hT, hTl, hW, hp, XX, ht, l⟩ := h
    obtain ⟨o, W', rfl, he, hW'⟩ := hW
    have hv := h6 v (.head _)
    have ⟨nd1, nd2⟩ := List.nodup_cons.mp nd
    have hsg := sgn_ok v hv.2
    have ho := Enc.ok he (fun c hc => by
      obtain ⟨u, u1, rfl⟩ := List.mem_map.mp hc
      exact Nat.lt_trans (cN_lt hB v u) (by decide))
    rw [List.length_map, callers_len hv.2] at ho
    rw [show txt n6 (sgnL.getD v [] :: o :: W' ++ [sgnL.getD 0 []]) i = spell (sgnL.getD v []) (n6 / (i + 1)) ++ (spell o (n6 / (i + 1 + 1)) ++ txt n6 (W' ++ [sgnL.getD 0 []]) (i + 1 + 1)) from rfl] at XX l
    obtain ⟨σ1, ln1, g1, X1, F1, l1⟩ := XX.get' Q hx hn hp hsg.1 (Nat.le_trans hsg.2 (by decide))
    obtain ⟨σ2, ln2, g2, X2, F2, l2⟩ := X1.get' Q hx hn (left_ws _) (fun e => by rw [e] at ho; exact absurd ho.2.2 (by decide)) (Nat.le_trans ho.2.1 (by decide))
    have hnot : X.tb ∉ [x.L, x.IT] := fun m => htb (List.mem_append_left [x.Pb, x.FO] m)
    have t2 : σ2[X.tb]? = some (.ds T) := F2.at (F1.at ht hnot) hnot
    have hlt := at_lt t2
    have hTv := hT v (.head _)
    have hTl' : T.length + vs.length + 1 ≤ 50 := hTl
    obtain ⟨σ3, w1, w2, w3, w4⟩ := rd1 (all := callers v) (X := X) (pl := some (.int ((v - 1 : Nat) : Int))) Q hl hv.2 hB hTv (by omega) (Nat.ne_of_lt hlt).symm (fun u hu => (callers_mem.mp hu).1) (List.Pairwise.filter _ List.nodup_range) (by rw [callers_len hv.2]; decide) (callers v) [] o ((σ2 ++ [AO.it (natD o)]).set X.tb (.ds (rowT low ds v T []))) ⟨rfl, he, (List.getElem?_set_ne (Nat.ne_of_lt hlt)).trans at_len, get_set (at_app t2)⟩
    have F23 : Fm [X.tb] σ2 σ3 := ((Fm.app _ _ _).trans (Fm.set _ _ (.inl (.head _)))).cut w4 fun m hm => (List.mem_cons.mp hm).elim (fun e => .inr (e ▸ Nat.le_refl _)) .inl
    have F3 : Fm [x.L, x.IT, X.tb] σ σ3 := ((F1.trans F2).mono fun u0 m => List.mem_append_left [X.tb] m).trans (F23.mono fun u0 m => List.mem_append_right [x.L, x.IT] m)
    have X3 := X2.frame F23 fun n hn hm => htb (List.mem_singleton.mp hm ▸ hn)
    obtain ⟨σ', pre', ln', z1, z2, z4, z5, z6, z7⟩ := rd2 Q hx hn hL hnm hl hB htb vs (i + 1 + 1) (T ++ [(nmA low v, .ds (intD (rowL low ds v)))]) W' (left (n6 / (i + 1 + 1))) ln2 σ3 ⟨fun x m => h6 x (.tail _ m), nd2, fun v' hv' hm => (List.mem_append.mp (by rw [List.map_append] at hm; exact hm)).elim (hT v' (.tail _ hv')) fun hm => nd1 (nmA_inj hl (h6 v' (.tail _ hv')).2 hv.2 (List.mem_singleton.mp hm) ▸ hv'), by rw [List.length_append, List.length_singleton]; omega, hW', left_ws _, X3, w3, l2.trans (l1.trans l)⟩
    rw [show i + 1 + 1 + 2 * vs.length = i + 2 * (vs.length + 1) by omega] at z4 z5
    refine ⟨σ', pre', ln', fun {A env p} => .next (.some _ _ _) (.v (i := 17) rfl rfl) (TS_cons (rd_a0 (k := v - 1) Q hx hL hnm hv.2 (Nat.le_trans ho.2.1 (by decide)) XX.l X1.l g1 g2) (TS_cons (TS.st (σ₂ := (σ2 ++ [AO.it (natD o)]).set X.tb (.ds (rowT low ds v T []))) (TS_seti (tv 15 rfl) (tv 16 rfl) (tv 10 rfl) (at_app t2) (by omega)) (by rw [kset_new hTv]; rfl)) (TS_cons (TS_for (TI_of (TP.rest made_L (TP_lf [12] (fun u : Nat => .str (nmA low u)) (fun u => .str (nmA low u)) (fun u => u != v) (List.range 6) (TI_of (TE.val (tv 5 rfl) hnm) iter_lst) rfl (by decide) fun cenv u m => ⟨.v (i := 12) rfl rfl, .set rfl, TT_one (TB.to (TB_cmp (tv 12 rfl) (tv 10 rfl) cmp_nes rfl) ?_), fun u0 => tv 12 rfl⟩)) iter_lst) w1)
      (TS_cons (TS_if_f (TB.to (TB_cmp (TE_bi Q.G.list (by kernel_rfl) rfl rfl (a1 (tv 18 rfl)) fun q r => bi_listIt w2 q.o.room.handled q.I r) (TE_list an (Nat.zero_le _)) (cmp_ned (rd_lst (.z _) rdL_nil) (rd_lst (.z _) rdL_nil) (by decide) (by decide)) rfl) (by decide)) TS_nil) (TS_nilf [10, 17, 18]))))) z1, z2, z4, z5, (by rw [List.append_assoc] at z6; exact z6), F3.trans z7⟩
    by_cases e : u = v
    · rw [e, BEq.rfl, bne_self_eq_false]; rfl
    · rw [beq_eq_false_iff_ne.mpr fun z => e (nmA_inj hl (List.mem_range.mp m) hv.2 z), bne_iff_ne.mpr e]; rfl
end
end Mine
end
section
open PySem PySem.W PyProof.Rows
namespace Mine
open E2
structure Pl (n : Nat) (p : PyData) : Prop where
  e : PyData.eqv p p = true
  l : PyData.canLay0 p = true
  d : PyData.depth p ≤ n
structure PlA (n : Nat) (p : List PyData) : Prop where
  e : PyData.eqvAll p p = true
  l : PyData.canLayAll0 p = true
  d : PyData.depthAll p ≤ n
section
variable {n : Nat}
theorem PlA.nil : PlA n [] := ⟨by unfold PyData.eqvAll; rfl, by unfold PyData.canLayAll0; rfl, by unfold PyData.depthAll; exact Nat.zero_le _⟩
theorem PlA.cons {p : PyData} {r : List PyData} (a : Pl n p) (b : PlA n r) : PlA n (p :: r) := ⟨by unfold PyData.eqvAll; rw [a.e, b.e]; rfl, by unfold PyData.canLayAll0; rw [a.l, b.l]; rfl, by unfold PyData.depthAll; exact Nat.max_le.mpr ⟨a.d, b.d⟩⟩
theorem PlA.map {α : Type} {f : α → PyData} : ∀ {l : List α}, (∀ x ∈ l, Pl n (f x)) → PlA n (l.map f)
  | [], _ => .nil
  | x :: l, h => .cons (h x (.head _)) (PlA.map fun y m => h y (.tail _ m))
theorem Pl.int {i : Int} : Pl n (.int i) := ⟨by unfold PyData.eqv; exact BEq.rfl, by unfold PyData.canLay0; rfl, by unfold PyData.depth; exact Nat.zero_le _⟩
theorem Pl.str {s : Str} (h : PyData.strOk s = true) : Pl n (.str s) := ⟨by unfold PyData.eqv; exact BEq.rfl, by unfold PyData.canLay0; exact h, by unfold PyData.depth; exact Nat.zero_le _⟩
theorem Pl.list {l : List PyData} (h : PlA n l) : Pl (n + 1) (.list l) := ⟨by unfold PyData.eqv; exact h.e, by unfold PyData.canLay0; exact h.l, by unfold PyData.depth; exact Nat.succ_le_succ h.d⟩
theorem Pl.tuple {l : List PyData} (h : PlA n l) : Pl (n + 1) (.tuple l) := ⟨by unfold PyData.eqv; exact h.e, by unfold PyData.canLay0; exact h.l, by unfold PyData.depth; exact Nat.succ_le_succ h.d⟩
theorem Pl.shaped {p : PyData} (h : Pl n p) (hn : n ≤ 64) : SeqAt.shaped p = true := by unfold SeqAt.shaped; rw [h.l, decide_eq_true (Nat.le_trans h.d hn)]; rfl
theorem cmp_same {σ : St} {a b : D} {p : PyData} (h : Pl n p) (hn : n ≤ 64) (ra : Rd σ a p) (rb : Rd σ b p) : CmpOk σ .NotEq a b false := by
  have := cmp_ned ra rb (h.shaped hn) (h.shaped hn)
  rwa [h.e] at this
theorem cmp_sameE {σ : St} {a b : D} {p : PyData} (h : Pl n p) (hn : n ≤ 64) (ra : Rd σ a p) (rb : Rd σ b p) : CmpOk σ .Eq a b true := by
  have := cmp_eqd ra rb (h.shaped hn) (h.shaped hn)
  rwa [h.e] at this
end
end Mine
end
section
open PySem PySem.W PyProof.Rows
namespace Mine
open E2
section
variable {C : Cx} {A : Around} {env : Env} {low : Nat} {ds : List Nat} {X : Lw} {σ σ' : St} {d : D}
noncomputable def fiveT (low : Nat) (ds : List Nat) : List (Str × D) := (List.range 5).map fun i => (nmA low (1 + i), .ds (intD (rowL low ds (1 + i))))
noncomputable def rowP (low : Nat) (ds : List Nat) (v : Nat) : PyData := .tuple [.str (nmA low v), .list ((callers v).map fun u => .tuple [.str (nmA low u), .int (cN ds v u : Nat)])]
noncomputable def rowDD (low : Nat) (ds : List Nat) (v : Nat) : D := .tup [.str (nmA low v), .lst ((callers v).map fun u => .tup [.str (nmA low u), .int (cN ds v u : Nat)])]
theorem rowP_pl (hl : low < 28) {v : Nat} (hv : v < 6) : Pl 3 (rowP low ds v) :=
  .tuple (.cons (.str (nmA_ok hl hv)) (.cons (.list (.map fun u m => .tuple (.cons (.str (nmA_ok hl (callers_mem.mp m).1)) (.cons .int .nil)))) .nil))
theorem rowP_rd {v : Nat} : Rd σ (rowDD low ds v) (rowP low ds v) :=
  rd_tup (rdL_cons rd_str (rdL_cons (rd_lst (.z _) (rdL_map fun u m => rd_tup (rdL_cons rd_str (rdL_cons rd_int rdL_nil)))) rdL_nil))
theorem five_get (hl : low < 28) {i : Nat} (hi : i < 5) : kget (fiveT low ds) (nmA low (1 + i)) = some (.ds (intD (rowL low ds (1 + i)))) := by
  have : fiveT low ds = ((List.range 5).map (1 + ·)).map fun j => (nmA low j, D.ds (intD (rowL low ds j))) := by rw [List.map_map]; rfl
  rw [this, kget_blk hl (fun j => D.ds (intD (rowL low ds j))) (by omega) _ (fun j m => by obtain ⟨x, hx, rfl⟩ := List.mem_map.mp m; have := List.mem_range.mp hx; omega), if_pos (List.mem_map.mpr ⟨i, List.mem_range.mpr hi, rfl⟩)]
theorem lw_14 (Q : Pr C) (hl : low < 28) (hnm : X.nm = namD low) (hco : X.co = costD ds) (ht : σ[X.tb]? = some (.ds (fiveT low ds))) (h : TR (.fn C A 5 fd17 env) (X.r none none none) (execs (lwB 15) env) σ d σ') : TR (.fn C A 5 fd17 env) (X.r none none none) (execs (lwB 14) env) σ d σ' := by
  have hvt : view σ (.loc X.tb) = .ds (fiveT low ds) := by
    show (match σ[X.tb]? with | some (.lst l) => D.lst l | some (.ds l) => .ds l | some (.di l) => .di l | _ => .loc X.tb) = _
    rw [ht]
  have hvn : view σ X.nm = namD low := by rw [hnm]; rfl
  have hvc : view σ X.co = costD ds := by rw [hco]; rfl
  have hAll : Pl 4 (.list ((List.range 5).map fun i => rowP low ds (1 + i))) := .list (.map fun i m => rowP_pl hl (by have := List.mem_range.mp m; omega))
  have hR : ∀ {σ : St}, Rd σ (.lst ((List.range 5).map fun i => rowDD low ds (1 + i))) (.list ((List.range 5).map fun i => rowP low ds (1 + i))) := fun {σ} => rd_lst (.z _) (rdL_map fun i m => rowP_rd)
  refine TR_cons (TS_if_f (TB_rest (TB_cmp (a := .lst ((List.range 5).map fun i => rowDD low ds (1 + i))) (b := .lst ((List.range 5).map fun i => rowDD low ds (1 + i)))
    (TP.rest made_L (TP_lm [31] (fun i : Nat => .str (nmA low (1 + i))) (fun i => rowDD low ds (1 + i)) (List.range 5) (TI_of (TE.val (tv 16 rfl) hvt) iter_keys) (by rw [fiveT, List.map_map]; rfl) (by decide) fun cenv i m => ⟨.v (i := 31) rfl rfl, .set rfl, TE.val (TE_tuple (a2 (tv 31 rfl) (TE_listItems Q.G.list (by kernel_rfl) (TE_idx (TE.val (tv 16 rfl) hvt) (tv 31 rfl) (idx_ds (.z _) (five_get hl (List.mem_range.mp m)))) (by rw [intD, mapD, List.length_map, rowL, costL, List.length_map, callers_len (by have := List.mem_range.mp m; omega)]; decide))) (Nat.le_of_ble_eq_true rfl)) (by unfold rowDD intD mapD rowL costL; rw [List.map_map, List.map_map]; rfl)⟩))
    (TP.rest made_L (TP_lm [10] (fun i : Nat => .int (((1 : Nat) : Int) + i)) (fun i => rowDD low ds (1 + i)) (List.range 5) (TI_range2 (a := 1) (n := 5) Q.G.range (by kernel_rfl) rfl (a2 TE_int TE_int) (by decide)) rfl (by decide) fun cenv i m => ⟨.v (i := 10) rfl rfl, .set rfl, ?_⟩))
    (cmp_same hAll (by decide) hR hR) rfl)) TS_nil) h
  have hi := List.mem_range.mp m
  have hv : 1 ≤ 1 + i ∧ 1 + i < 6 := by omega
  have hix : ∀ {u : Nat} {σ : St}, u < 6 → IdxOk σ (namD low) (.int (u : Nat)) (.str (nmA low u)) := fun {u σ} hu => idx_lst (.z _) (by rw [List.getElem?_map, List.getElem?_range hu]; rfl) (by omega)
  refine TE_tuple (a2 (TE_idx (TE.val (tv 5 rfl) hvn) (tv 10 rfl) (hix (u := 1 + i) hv.2)) (TP.rest made_L (TP_lf [12] (fun u : Nat => .int (u : Nat)) (fun u => .tup [.str (nmA low u), .int (cN ds (1 + i) u : Nat)]) (fun u => u != 1 + i) (List.range 6) (TI_range1 (n := 6) Q.G.range (by kernel_rfl) rfl (a1 TE_int) (by decide)) rfl (by decide) fun cenv' u mu => ⟨.v (i := 12) rfl rfl, .set rfl, TT_one (TB.to (TB_cmp (tv 12 rfl) (tv 10 rfl) cmp_nei rfl) (congrArg not (Bool.eq_iff_iff.mpr (by rw [beq_iff_eq, beq_iff_eq]; omega)))), fun u0 => ?_⟩))) (Nat.le_of_ble_eq_true rfl)
  obtain ⟨z, i1, i2⟩ := cost_at (σ := σ.map fun u0 => .dead) (ds := ds) hv (List.mem_range.mp mu)
  exact TE_tuple (a2 (TE_idx (TE.val (tv 5 rfl) hvn) (tv 12 rfl) (hix (List.mem_range.mp mu))) (TE_idx (TE_idx (TE.val (tv 7 rfl) hvc) (tv 10 rfl) i1) (tv 12 rfl) i2)) (Nat.le_of_ble_eq_true rfl)
end
end Mine
end
section
open PySem PySem.W PyProof.Rows
namespace Mine
open E2
noncomputable def turnV (ds : List Nat) : Int := 1 - 2 * ((ds.getD 26 0 / 2 % 2 : Nat) : Int)
noncomputable def Lw.r2 (x : Lw) (t : Int) (order owner lead gains line : Option D) : Rho := lwR [some x.s, some x.ns, some x.dr, some x.kn, some x.lo, some x.nm, some x.fl, some x.co, some sgnD, some x.pa, none, none, none, some x.tx, some (.loc x.L), some (.ds []), some (.loc x.tb), none, none, some (.int t), order, owner, lead, gains, line]
section
variable {C : Cx} {A : Around} {env : Env} {low : Nat} {ds : List Nat} {X : Lw} {σ σ' : St} {d : D}
theorem lw_15 (Q : Pr C) (hl : low < 28) (hdr : X.dr = .lst (natD ds)) (hd : ds.length = 28) (hnm : X.nm = namD low)
    (h : TR (.fn C A 5 fd17 env) (X.r2 (turnV ds) (some (.loc σ.length)) (some (.loc (σ.length + 1))) (some (.loc (σ.length + 2))) (some (.loc (σ.length + 3))) none) (execs (lwB 19) env) (σ ++ [.ins Q.tc (tcF (ordD 2 (turnV ds))), .ds (ownD low fun i => 2 ^ i), .ds [], .lst []]) d σ') :
    TR (.fn C A 5 fd17 env) (X.r none none none) (execs (lwB 15) env) σ d σ' := by
  have hds : (X.dr : D) = .lst (natD ds) := hdr
  refine TR_cons (TS_asg (i := 19) (d := .int (turnV ds)) (TE.val (TE_bin TE_int (TE_bin TE_int (TE_bin (TE_bin (TE_idx (TE.val (tv 2 rfl) hds) TE_int (nat_at (i := 26) (by omega) (by decide))) TE_int (bin_fdiv (by decide) (by decide))) TE_int (bin_fmod (by decide))) (bin_mul (.inl (by decide)))) bin_sub) ?_) rfl rfl rfl) ?_
  · rw [show (2 : Int) = ((2 : Nat) : Int) from rfl, fdiv_nat, fmod_nat]; rfl
  refine TR_cons (TS_asg (i := 20) (TE.st (TE_new (j := 1) (tinit_fn Q.G Q.T0 Q.ti (ordD 2 (turnV ds)) at_len) (Nat.le_of_ble_eq_true rfl) Q.tg Q.tn (by kernel_rfl) rfl (a1 (TE_list (a2 (TE_tuple (a2 TE_int TE_int) (Nat.le_of_ble_eq_true rfl)) (TE_tuple (a2 TE_int (tv 19 rfl)) (Nat.le_of_ble_eq_true rfl))) (Nat.le_of_ble_eq_true rfl)))) set_len) rfl rfl rfl) ?_
  refine TR_cons (TS_asgs (i := 21) (TP.loc made_D (TP_dm [31] (fun i : Nat => .str (nmA low i)) (fun i => .str (nmA low i)) (nmA low) (List.range 6) (TI_of (TE.val (tv 5 rfl) hnm) iter_lst) rfl (by decide) (nm_nodup hl (fun j h => List.mem_range.mp h) List.nodup_range) fun cenv i m => ⟨.v (i := 31) rfl rfl, .set rfl, TT_nil, fun u0 => ⟨tv 31 rfl, tv 31 rfl⟩⟩)) rfl rfl _) ?_
  refine TR_cons (TS_asgT0 (TE_tuple (a2 (TP.loc made_D TP_d0) (TP.loc made_L (TP_list an (Nat.zero_le _)))) (Nat.le_of_ble_eq_true rfl)) (.t (.cons (i := 22) rfl rfl (.cons (i := 23) rfl rfl (.nil _))))) ?_
  have e1 : (σ ++ [AO.ins Q.tc (tcF (ordD 2 (turnV ds)))]).length = σ.length + 1 := by rw [List.length_append]; rfl
  have ho : ((List.range 6).map fun i => (nmA low i, D.str (nmA low i))) = ownD low fun i => 2 ^ i := List.map_congr_left fun i m => by rw [tok_one low i (List.mem_range.mp m)]
  simp only [List.length_append, List.length_singleton, List.append_assoc]
  rw [ho]
  exact h
end
end Mine
end
section
open PySem PySem.W PyProof.Rows
namespace Mine
open E2
noncomputable def lineV (ds : List Nat) : List Nat := if ds.getD 26 0 % 2 = 0 then [1, 2, 3, 4, 5] else [5, 4, 3, 2, 1]
noncomputable def nmL (low : Nat) (l : List Nat) : List D := l.map fun i => .str (nmA low i)
theorem sl_tail (low : Nat) : (sliceRange (sliceBounds (some 1) none none (nmL low (List.range 6)).length).1 (sliceBounds (some 1) none none (nmL low (List.range 6)).length).2.1 (sliceBounds (some 1) none none (nmL low (List.range 6)).length).2.2).filterMap ((nmL low (List.range 6))[·]?) = nmL low [1, 2, 3, 4, 5] := by
  rw [show sliceRange (sliceBounds (some 1) none none (nmL low (List.range 6)).length).1 (sliceBounds (some 1) none none (nmL low (List.range 6)).length).2.1 (sliceBounds (some 1) none none (nmL low (List.range 6)).length).2.2 = [1, 2, 3, 4, 5] from (by decide : sliceRange (sliceBounds (some 1) none none 6).1 (sliceBounds (some 1) none none 6).2.1 (sliceBounds (some 1) none none 6).2.2 = [1, 2, 3, 4, 5])]
  rfl
theorem sl_turn (low : Nat) (ds : List Nat) : (sliceRange (sliceBounds none none (some (1 - 2 * ((ds.getD 26 0 % 2 : Nat) : Int))) (nmL low [1, 2, 3, 4, 5]).length).1 (sliceBounds none none (some (1 - 2 * ((ds.getD 26 0 % 2 : Nat) : Int))) (nmL low [1, 2, 3, 4, 5]).length).2.1 (sliceBounds none none (some (1 - 2 * ((ds.getD 26 0 % 2 : Nat) : Int))) (nmL low [1, 2, 3, 4, 5]).length).2.2).filterMap ((nmL low [1, 2, 3, 4, 5])[·]?) = nmL low (lineV ds) := by
  unfold lineV
  have h := Nat.mod_lt (ds.getD 26 0) (show 0 < 2 by decide)
  generalize ds.getD 26 0 % 2 = r at h
  rw [show (nmL low [1, 2, 3, 4, 5]).length = 5 from rfl]
  match r, h with
  | 0, _ =>
    rw [(by decide : sliceRange (sliceBounds none none (some (1 - 2 * ((0 : Nat) : Int))) 5).1 (sliceBounds none none (some (1 - 2 * ((0 : Nat) : Int))) 5).2.1 (sliceBounds none none (some (1 - 2 * ((0 : Nat) : Int))) 5).2.2 = [0, 1, 2, 3, 4])]
    rfl
  | 1, _ =>
    rw [(by decide : sliceRange (sliceBounds none none (some (1 - 2 * ((1 : Nat) : Int))) 5).1 (sliceBounds none none (some (1 - 2 * ((1 : Nat) : Int))) 5).2.1 (sliceBounds none none (some (1 - 2 * ((1 : Nat) : Int))) 5).2.2 = [4, 3, 2, 1, 0])]
    rfl
section
variable {C : Cx} {A : Around} {env : Env} {low : Nat} {ds : List Nat} {X : Lw} {σ σ' : St} {d : D} {t : Int} {o w l g : D}
theorem lw_19 (hdr : X.dr = .lst (natD ds)) (hd : ds.length = 28) (hnm : X.nm = namD low)
    (h : TR (.fn C A 5 fd17 env) (X.r2 t (some o) (some w) (some l) (some g) (some (.loc σ.length))) (execs (lwB 20) env) (σ ++ [.lst (nmL low (lineV ds))]) d σ') :
    TR (.fn C A 5 fd17 env) (X.r2 t (some o) (some w) (some l) (some g) none) (execs (lwB 19) env) σ d σ' := by
  have hk : (1 - 2 * ((ds.getD 26 0 % 2 : Nat) : Int)) ≠ 0 := by omega
  refine TR_cons (TS_asg (i := 24) (TE.to (TP.loc made_L (TP_sl (l := nmL low [1, 2, 3, 4, 5]) (.z _) (fun q => hk (Option.some.inj q)) (show 5 ≤ 16777216 by decide) (TE.val (TE_sl (TE.val (tv 5 rfl) (hnm.trans (show namD low = .lst (nmL low (List.range 6)) from rfl))) (TE_part_some TE_int) TE_part_none TE_part_none (.int _) .none .none (sl_lst (l := nmL low (List.range 6)) (.z _) (by decide) (show 6 ≤ 16777216 by decide))) (congrArg D.lst (sl_tail low))) TE_part_none TE_part_none (TE_part_some (TE.val (TE_bin TE_int (TE_bin TE_int (TE_bin (TE_idx (TE.val (tv 2 rfl) hdr) TE_int (nat_at (i := 26) (by omega) (by decide))) TE_int (bin_fmod (by decide))) (bin_mul (.inl (by decide)))) bin_sub) (by rw [show (2 : Int) = ((2 : Nat) : Int) from rfl, fmod_nat]))) .none .none (.int (1 - 2 * ((ds.getD 26 0 % 2 : Nat) : Int))))) ⟨rfl, congrArg (fun l => σ ++ [AO.lst l]) (sl_turn low ds)⟩) rfl rfl rfl) h
end
end Mine
end
section
open PySem PySem.W PyProof.Rows
namespace Mine
open E2
noncomputable def lnL : List (Nat × Nat) := [posE (argE (subE (testS ((pT 17).body.getD 20 (.Pass default)))) 3)]
section
variable {C : Cx} {A : Around} {env : Env} {low li tl : Nat} {P : Addr} {X : Lw} {z : Cl} {σ σ' σ₂ : St} {d : D} {t : Int}
theorem lw_20 (Q : Pr C) (hl : LamAt C 0 lam0) (hP : ∃ c, env.code = .ref c ∧ CodeHd C.h0 c P) (hb : C.h0.BuiltinsAt C.mg P) (hfl : X.fl = .ds (flagsD low)) (htb : X.tb = z.tb) (ht : σ[tl]? = some (.tab P []))
    (hrun : FnTo C 5 Q.a15 [.loc X.L, .loc li, .str (mkS (sgnL.getD 0 [])), .lam 0 (capV z low)] (σ.set tl (.tab P lnL)) (.bool true) σ')
    (h : TR (.fn C A 5 fd17 env) (X.r2 t (some (.loc z.od)) (some (.loc z.ow)) (some (.loc z.ld)) (some (.loc z.ga)) (some (.loc li))) (execs (lwB 21) env) σ' d σ₂) :
    TR (.fn C A 5 fd17 env) (X.r2 t (some (.loc z.od)) (some (.loc z.ow)) (some (.loc z.ld)) (some (.loc z.ga)) (some (.loc li))) (execs (lwB 20) env) σ d σ₂ := by
  have e1 : (X.r2 t (some (.loc z.od)) (some (.loc z.ow)) (some (.loc z.ld)) (some (.loc z.ga)) (some (.loc li)))[16]? = some (some (.loc z.tb)) := congrArg (fun n => some (some (D.loc n))) htb
  have e2 : (X.r2 t (some (.loc z.od)) (some (.loc z.ow)) (some (.loc z.ld)) (some (.loc z.ga)) (some (.loc li)))[6]? = some (some (.ds (flagsD low))) := congrArg (fun n => some (some n)) hfl
  exact TR_cons (TS_if_f (TB_not (q := true) (TB_value (call Q.F15 hrun (ac (tv 14 rfl) (ac (tv 24 rfl) (a2 (TE_idx (tv 8 rfl) TE_int (idx_tup (j := 0) (d := .str (mkS (sgnL.getD 0 []))) rfl (by decide))) (TE_lam (t := tl) (j := 0) (c := capV z low) ⟨hP, hb, ht⟩ rfl hl.is (.cons 16 rfl e1 (by kernel_rfl) (.cons 21 rfl rfl (by kernel_rfl) (.cons 22 rfl rfl (by kernel_rfl) (.cons 23 rfl rfl (by kernel_rfl) (.cons 20 rfl rfl (by kernel_rfl) (.cons 6 rfl e2 (by kernel_rfl) .nil)))))) (by kernel_rfl) (by show _ = true; kernel_rfl)))))) truth_bool)) TS_nil) h
end
end Mine
end
section
open PySem PySem.W PyProof.Rows
namespace Mine
section
variable {K : Ctx} {ρ ρ' : Rho} {σ σ' : St} {elts : List Expr} {kd : Nat} {q pos : Pos} {e : Expr} {ds : List D} {names : List Str} {E : Value → Shared → Prop} {w : W}
theorem asgR_ok {xs : List Str} (h : StoL K.fd xs ds ρ ρ') : ∀ {vs : List Value} {w : W}, Ok K ρ σ w → RepL K.C w ds vs → wpAny K.C.M K.A (assignInOrder (xs.map fun n => bindName K.env n) vs) (fun u0 => OutN K K.own1 w σ ρ') E w.s := by
  induction h with
  | nil => intro vs w p r; cases r; exact wpAny_pure ⟨w, .refl _ _, p.I, p.V⟩
  | cons i hi hm r ih =>
    intro vs w p ⟨v, vs, r1, r2⟩
    rw [List.map_cons]
    unfold assignInOrder
    exact wpAny_bind (wpAny_holding (wpAny_bindName (wpAny_mono (store_ok p.o p.I p.V hi hm r1) (fun u0 u0 ⟨w1, x1, I1, V1⟩ => wpAny_mono (ih ⟨p.o, I1, V1⟩ (x1.repL r2)) (fun u0 u0 o => o.after x1) fun u0 u0 e => e) fun u0 u0 e => e)))
theorem repL_rev {C : Cx} {w : W} : ∀ {l : List D} {vs : List Value}, RepL C w l vs → RepL C w l.reverse vs.reverse
  | [], _, r => by cases r; exact rfl
  | d :: l, _, ⟨v, vs, a, b⟩ => by
    rw [List.reverse_cons, List.reverse_cons]
    exact RepL.append (repL_rev b) ⟨v, [], a, rfl⟩
theorem TS_asgR (h : TE K ρ (eval e K.env) σ (.tup ds) σ') (hn : names.length = ds.length) (st : StoL K.fd names.reverse ds.reverse ρ ρ') (hw : swappedStores [.Tuple elts kd q] e (dEnv K.fd.scope) = pure (some names) := by kernel_rfl) (hs : swapsWithSole [.Tuple elts kd q] e pos.line K.env = pure false := by rfl) :
    TS K ρ (exec (.Assign [.Tuple elts kd q] e pos) K.env) σ .next ρ' σ' := fun u0 u0 p =>
  PyProof.Rows.Assign_Tuple_swapped (h.go p fun v w1 n1 => by
    obtain ⟨a, vs, n, z, r⟩ := n1.r
    rw [show names.length = vs.toArray.size by rw [hn, List.size_toArray, r.length]]
    refine unpackItems_tuple (items := vs.toArray) p.o.room.handled ⟨_, z.is, rfl, n, rfl⟩ fun h' hx => ?_
    have hk : ∀ b o, w1.s.heap.get? b = some o → h'.get? b = some o := fun b o e => hx b o (fun q => by rw [q, Heap.fresh0] at e; cases e) e
    have x : Step NoF w1 (w1.put [] .fz h' w1.s.toks []) := .grow hk
    exact wpAny_mono (asgR_ok st (w := w1.put [] .fz h' w1.s.toks []) (n1.p.next x (n1.p.I.grow hk)) (repL_rev (x.repL r))) (fun u0 u0 o => o.next (n1.x.trans x)) fun u0 u0 e => e) hs ((sw_env p.o.scope).trans hw)
end
end Mine
end
section
open PySem PySem.W PyProof.Rows
namespace Mine
open E2
theorem count_nl (l : List Nat) : Txt.count (mkS l) ⟨#[10]⟩ = ((nls l : Nat) : Int) := by
  rw [count_is, mkS_list]
  show cnt 10 l = _
  induction l with
  | nil => rfl
  | cons c l ih =>
    rw [cnt_cons, ih, nls_cons]
    unfold nl
    by_cases h : c = 10
    · rw [if_pos h, if_pos h]; omega
    · rw [if_neg h, if_neg h]; omega
theorem strOk_iff {l : List Nat} : PyData.strOk (mkS l) = true ↔ ∀ x ∈ l, x < 0x110000 := by
  unfold PyData.strOk mkS
  rw [← Array.all_toList, List.all_eq_true]
  exact ⟨fun h x m => of_decide_eq_true (h x m), fun h x m => decide_eq_true (h x m)⟩
theorem tok_ok {low m : Nat} (hl : low < 28) : PyData.strOk (tokA low m) = true := by
  rw [tok_jn, strOk_iff]
  have : ∀ p ∈ (bits m).map fun i => (nmA low i).cps.toList, ∀ x ∈ p, x < 0x110000 := fun p hp => by
    obtain ⟨i, hi, rfl⟩ := List.mem_map.mp hp
    exact strOk_iff.mp (nmA_ok hl (bits_lt hi).1)
  cases h : (bits m).map fun i => (nmA low i).cps.toList with
  | nil => intro x hx; cases hx
  | cons p r =>
    rw [h] at this
    intro x hx
    rw [jn_flat, List.mem_append] at hx
    rcases hx with hx | hx
    · exact this p (.head _) x hx
    · obtain ⟨q, hq, hx⟩ := List.mem_flatMap.mp hx
      rcases List.mem_cons.mp hx with rfl | hx
      · decide
      · rcases List.mem_cons.mp hx with rfl | hx
        · decide
        · exact this q (.tail _ hq) x hx
noncomputable def sumT (leadF : Nat → Str) (low : Nat) (gs : Gs) : List (Str × Int) := gs.foldl (fun T p => addC T [(tokA low p.1, p.2), (leadF p.1, p.2)]) []
theorem sumT_snoc (F : Nat → Str) (low : Nat) (gs : Gs) (p : Nat × Int) : sumT F low (gs ++ [p]) = addC (sumT F low gs) [(tokA low p.1, p.2), (F p.1, p.2)] := List.foldl_append
theorem aset_nodup {α β : Type} [DecidableEq α] {l : List (α × β)} {k : α} {d : β} (h : (l.map (·.1)).Nodup) : ((aset l k d).map (·.1)).Nodup := by
  rw [aset_keys]
  split
  · exact h
  · rename_i hk
    rw [List.nodup_append]
    exact ⟨h, List.nodup_cons.mpr ⟨List.not_mem_nil, .nil⟩, fun a ha b hb => by rw [List.mem_singleton.mp hb]; exact fun e => hk (e ▸ ha)⟩
theorem addC_nodup : ∀ {b a : List (Str × Int)}, (a.map (·.1)).Nodup → ((addC a b).map (·.1)).Nodup
  | [], _, h => h
  | _ :: b, _, h => addC_nodup (b := b) (aset_nodup h)
theorem aset_sum : ∀ (l : List (Str × Int)) (k : Str) (y : Int), ((aset l k ((aget l k).getD 0 + y)).map (·.2)).sum = (l.map (·.2)).sum + y
  | [], k, y => by show 0 + y + 0 = 0 + y; omega
  | (j, e) :: l, k, y => by
    unfold aset aget
    by_cases h : j = k
    · rw [if_pos h, if_pos h]; show e + y + (l.map (·.2)).sum = e + (l.map (·.2)).sum + y; omega
    · rw [if_neg h, if_neg h, List.map_cons, List.sum_cons, aset_sum l k y, List.map_cons, List.sum_cons]; omega
theorem addC_sum : ∀ (b a : List (Str × Int)), ((addC a b).map (·.2)).sum = (a.map (·.2)).sum + (b.map (·.2)).sum
  | [], a => (Int.add_zero _).symm
  | p :: b, a => by
    refine (addC_sum b _).trans ?_
    rw [aset_sum, List.map_cons, List.sum_cons]; omega
theorem sumT_ind (F : Nat → Str) (low : Nat) {P : Gs → List (Str × Int) → Prop} (h0 : P [] []) (hs : ∀ gs T p, P gs T → P (gs ++ [p]) (addC T [(tokA low p.1, p.2), (F p.1, p.2)])) : ∀ gs, P gs (sumT F low gs) := fun gs => by
  have : ∀ n (gs : Gs), gs.length = n → P gs (sumT F low gs) := fun n => by
    induction n with
    | zero => intro gs h; cases List.length_eq_zero_iff.mp h; exact h0
    | succ n ih =>
      intro gs h
      have hne : gs ≠ [] := fun e => by rw [e] at h; cases h
      rw [← List.dropLast_concat_getLast hne, sumT_snoc]
      exact hs _ _ _ (ih _ (by rw [List.length_dropLast, h]; rfl))
  exact this _ gs rfl
theorem sumT_nodup (F : Nat → Str) (low : Nat) (gs : Gs) : ((sumT F low gs).map (·.1)).Nodup := sumT_ind F low (P := fun u0 T => (T.map (·.1)).Nodup) .nil (fun u0 u0 u0 h => addC_nodup h) gs
theorem sumT_len (F : Nat → Str) (low : Nat) (gs : Gs) : (sumT F low gs).length ≤ 2 * gs.length := sumT_ind F low (P := fun gs T => T.length ≤ 2 * gs.length) (Nat.le_refl _) (fun gs T p h => by
  have := addC_len [(tokA low p.1, p.2), (F p.1, p.2)] T
  rw [List.length_append, List.length_singleton]
  exact Nat.le_trans this (by show T.length + 2 ≤ _; omega)) gs
theorem sumT_sum (F : Nat → Str) (low : Nat) (gs : Gs) : ((sumT F low gs).map (·.2)).sum = 2 * (gs.map (·.2)).sum := sumT_ind F low (P := fun gs T => (T.map (·.2)).sum = 2 * (gs.map (·.2)).sum) rfl (fun gs T p h => by
  rw [addC_sum, h, List.map_append, List.sum_append]
  show _ + (p.2 + (p.2 + 0)) = 2 * (_ + (p.2 + 0))
  omega) gs
theorem addC_all {P : Str → Prop} : ∀ {b a : List (Str × Int)}, (∀ q ∈ b, P q.1) → (∀ q ∈ a, P q.1) → ∀ q ∈ addC a b, P q.1
  | [], _, _, h => h
  | p :: b, a, hb, h => addC_all (b := b) (fun q m => hb q (.tail _ m)) (aset_all (P := fun q => P q.1) (k := p.1) (d := (aget a p.1).getD 0 + p.2) (hb p (.head _)) h)
theorem sumT_all {P : Str → Prop} (F : Nat → Str) (low : Nat) (gs : Gs) : (∀ p ∈ gs, P (tokA low p.1) ∧ P (F p.1)) → ∀ q ∈ sumT F low gs, P q.1 := sumT_ind F low (P := fun gs T => (∀ p ∈ gs, P (tokA low p.1) ∧ P (F p.1)) → ∀ q ∈ T, P q.1) (fun u0 u0 h => nomatch h) (fun gs T p h hp =>
  addC_all (fun q m => by
    have := hp p (List.mem_append_right _ (.head _))
    rcases List.mem_cons.mp m with rfl | m
    · exact this.1
    · cases List.mem_singleton.mp m; exact this.2) (h fun q m => hp q (List.mem_append_left _ m))) gs
theorem dual_filter : ∀ (gs : Gs) (u v : Nat), ((gs.filter fun p => p.1.testBit v && !p.1.testBit u).map (·.2)).sum = dual gs u v
  | [], _, _ => rfl
  | p :: gs, u, v => by
    rw [dual_cons, ← dual_filter gs u v, List.filter_cons]
    cases (p.1.testBit v && !p.1.testBit u)
    · exact (Int.zero_add _).symm
    · rfl
theorem gain_le {c : Nat → Nat → Int} {pr : Nat → Int} {s : S2} (J : E2.Inv c pr s []) {B : Int} (hB : ∀ v u, c v u ≤ B) {p : Nat × Int} (hp : p ∈ s.gains) : 0 ≤ p.2 ∧ p.2 ≤ B := by
  have I := J.ia
  refine ⟨I.y0 p hp, ?_⟩
  obtain ⟨w, hw⟩ := aget_mem.mpr (I.gk ▸ List.mem_map_of_mem (f := (·.1)) hp : p.1 ∈ s.lead.map (·.1))
  obtain ⟨h1, h2, h3, h4, i, hi, h5, u1⟩ := I.l1 _ _ hw
  have hi0 : i ≠ 0 := fun e => by subst e; rw [h4] at h5; cases h5
  have hr := I.r0 0 (by decide) i hi hi0 (Ne.symm hi0)
  have hc := hB i 0
  have hq : (p.1.testBit i && !p.1.testBit 0) = true := by rw [h5, h4]; rfl
  have : ∀ gs : Gs, (∀ q ∈ gs, 0 ≤ q.2) → 0 ≤ dual gs 0 i ∧ (p ∈ gs → p.2 ≤ dual gs 0 i) := by
    intro gs
    induction gs with
    | nil => exact fun u0 => ⟨Int.le_refl _, fun h => nomatch h⟩
    | cons q gs ih =>
      intro h
      have ⟨k1, k2⟩ := ih fun x m => h x (.tail _ m)
      have hq0 := h q (.head _)
      rw [dual_cons]
      refine ⟨by split <;> omega, fun hm => ?_⟩
      rcases List.mem_cons.mp hm with rfl | hm
      · rw [if_pos hq]; omega
      · have := k2 hm
        split <;> omega
  have := (this s.gains I.y0).2 hp
  omega
end Mine
end
section
open PySem PySem.W PyProof.Rows
namespace Mine
open E2
noncomputable def slx {α : Type} (i j k : Option Int) (l : List α) : List α := (sliceRange (sliceBounds i j k l.length).1 (sliceBounds i j k l.length).2.1 (sliceBounds i j k l.length).2.2).filterMap (l[·]?)
section
variable {α : Type}
theorem range_pick (l : List α) : (List.range l.length).filterMap (l[·]?) = l := List.filterMap_getElem?_range_length l
theorem slx_all {l : List α} (h : l.length ≤ 6) : slx none none (some 1) l = l := by
  unfold slx
  rw [(by decide : ∀ n ≤ 6, sliceRange (sliceBounds none none (some 1) n).1 (sliceBounds none none (some 1) n).2.1 (sliceBounds none none (some 1) n).2.2 = List.range n) _ h, range_pick]
theorem slx_rev {l : List α} (h : l.length ≤ 6) : slx none none (some (-1)) l = l.reverse := by
  unfold slx
  rw [(by decide : ∀ n ≤ 6, sliceRange (sliceBounds none none (some (-1)) n).1 (sliceBounds none none (some (-1)) n).2.1 (sliceBounds none none (some (-1)) n).2.2 = (List.range n).reverse) _ h, List.filterMap_reverse, range_pick]
theorem slx_one {a : α} {l : List α} (h : (a :: l).length ≤ 6) : slx none (some 1) none (a :: l) = [a] := by
  unfold slx
  rw [(by decide : ∀ n ≤ 6, 1 ≤ n → sliceRange (sliceBounds none (some 1) none n).1 (sliceBounds none (some 1) none n).2.1 (sliceBounds none (some 1) none n).2.2 = [0]) _ h (Nat.succ_le_succ (Nat.zero_le _))]
  rfl
theorem slx_tail {a : α} {l : List α} (h : (a :: l).length ≤ 6) : slx (some 1) none none (a :: l) = l := by
  unfold slx
  rw [List.length_cons, (by decide : ∀ n ≤ 5, sliceRange (sliceBounds (some 1) none none (n + 1)).1 (sliceBounds (some 1) none none (n + 1)).2.1 (sliceBounds (some 1) none none (n + 1)).2.2 = (List.range n).map (· + 1)) l.length (Nat.le_of_succ_le_succ h), List.filterMap_map]
  exact range_pick l
end
theorem leS_trans {a b c : Str} (h : leS a b) (k : leS b c) : leS a c := List.le_trans h k
theorem sorted_of (l : List Str) : ∃ S : List Str, S.Perm l ∧ S.Pairwise leS :=
  have h := List.pairwise_mergeSort (le := fun a b : Str => decide (a.cps.toList ≤ b.cps.toList)) (fun a b c h k => decide_eq_true (List.le_trans (of_decide_eq_true h) (of_decide_eq_true k))) (fun a b => by
    rw [Bool.or_eq_true, decide_eq_true_iff, decide_eq_true_iff]; exact List.le_total _ _) l
  ⟨_, List.mergeSort_perm l _, h.imp of_decide_eq_true⟩
theorem lead_first {low u : Nat} {t : Int} (hl : low < 28) (ht : t = 1 ∨ t = -1) {xs : List Nat} (h6 : ∀ x ∈ xs, x < 6) (hlen : xs.length ≤ 6) (hu : u ∈ xs) (hmin : ∀ x ∈ xs, prT t low u ≤ prT t low x) :
    ∃ S : List Str, S.Perm (xs.map (nmA low)) ∧ S.Pairwise leS ∧ S.length ≤ 6 ∧ ∃ r, r.length ≤ 5 ∧ slx none none (some t) (S.map D.str) = .str (nmA low u) :: r := by
  obtain ⟨S, hp, hs⟩ := sorted_of (xs.map (nmA low))
  have hSl : S.length ≤ 6 := by rw [hp.length_eq, List.length_map]; exact hlen
  have hm : nmA low u ∈ S := hp.mem_iff.mpr (List.mem_map_of_mem hu)
  have eqv : ∀ a ∈ S, (t = 1 → leS a (nmA low u)) → (t = -1 → leS (nmA low u) a) → a = nmA low u := fun a ha h1 h2 => by
    obtain ⟨x, hx, rfl⟩ := List.mem_map.mp (hp.mem_iff.mp ha)
    have hmx := hmin x hx
    unfold prT at hmx
    have : rkN (low + x) = rkN (low + u) := by
      rcases ht with rfl | rfl
      · have h := List.not_lt.mpr (h1 rfl)
        rw [nmA_lt hl (h6 u hu) (h6 x hx)] at h
        omega
      · have h := List.not_lt.mpr (h2 rfl)
        rw [nmA_lt hl (h6 x hx) (h6 u hu)] at h
        omega
    rw [rk_inj hl (h6 x hx) (h6 u hu) this]
  have key : ∀ (a : Str) (r : List Str), (∀ x ∈ S, x ∈ a :: r) → a ∈ S → r.length ≤ 5 → (∀ x ∈ r, (t = 1 → leS a x) ∧ (t = -1 → leS x a)) → slx none none (some t) (S.map D.str) = (a :: r).map .str → ∃ r, r.length ≤ 5 ∧ slx none none (some t) (S.map D.str) = .str (nmA low u) :: r := fun a r hin ha hr hle e => by
    have := eqv a ha (fun h => (List.mem_cons.mp (hin _ hm)).elim (fun e => e ▸ List.le_refl _) fun m => (hle _ m).1 h) (fun h => (List.mem_cons.mp (hin _ hm)).elim (fun e => e ▸ List.le_refl _) fun m => (hle _ m).2 h)
    exact ⟨r.map .str, by rw [List.length_map]; exact hr, by rw [e, this]; rfl⟩
  refine ⟨S, hp, hs, hSl, ?_⟩
  rcases ht with rfl | rfl
  · cases S with
    | nil => cases hm
    | cons a r => exact key a r (fun u0 h => h) (.head _) (Nat.le_of_succ_le_succ hSl) (fun x m => ⟨fun u0 => (List.pairwise_cons.mp hs).1 x m, fun h => by cases h⟩) (slx_all (by rw [List.length_map]; exact hSl))
  · cases h : S.reverse with
    | nil => rw [List.reverse_eq_nil_iff.mp h] at hm; cases hm
    | cons a r =>
      have hlr : r.length + 1 ≤ 6 := by rw [← List.length_cons (a := a), ← h, List.length_reverse]; exact hSl
      have hpr : (a :: r).Pairwise fun x y => leS y x := h ▸ List.pairwise_reverse.mpr hs
      refine key a r (fun x m => h ▸ List.mem_reverse.mpr m) (List.mem_reverse.mp (h ▸ .head _)) (Nat.le_of_succ_le_succ hlr) (fun x m => ⟨fun h => absurd h (by decide), fun u0 => (List.pairwise_cons.mp hpr).1 x m⟩) ?_
      rw [slx_rev (by rw [List.length_map]; exact hSl), ← List.map_reverse, h]
end Mine
end
section
open PySem PySem.W PyProof.Rows
namespace Mine
open E2
structure Lz extends Lw where
  low : Nat
  t : Int
  od : D
  ow : D
  st : S2
noncomputable def Lz.r (x : Lz) (total due sets best : Option D) : Rho := lwR [some x.s, some x.ns, some x.dr, some x.kn, some x.lo, some x.nm, some x.fl, some x.co, some sgnD, some x.pa, none, none, none, some x.tx, some (.loc x.L), some (.ds []), some (.ds (tabD x.low x.st.tab)), none, none, some (.int x.t), some x.od, some x.ow, some (.ds (leadD x.low x.st.lead)), some (.lst (gainsD x.low x.st.gains)), some (.lst (tkD x.low (x.st.gains.map (·.1)))), total, due, sets, none, none, none, none, best]
noncomputable def Lz.F (x : Lz) (S : Nat) : Str := nmA x.low ((aget x.st.lead S).getD 0)
noncomputable def Lz.T (x : Lz) (gs : Gs) : List (Str × Int) := sumT x.F x.low gs
noncomputable def setD (low : Nat) (p : Nat × Int) : D := .tup [.lst ((bits p.1).map fun i => .str (nmA low i)), .int p.2]
noncomputable def Lz.tot (x : Lz) (gs : Gs) : D := statD (gs.length, (gs.map fun p => ((bits p.1).length : Int)).sum, (gs.map (·.2)).sum, (gs.map fun p => p.2 * p.2).sum) (x.T gs)
section
variable {C : Cx} {A : Around} {env : Env} {X : Lz} {σ σ' : St} {d : D} {li tb ld ga n : Nat}
theorem lw_21 (c1 : σ[X.tb]? = some (.ds (tabD X.low X.st.tab))) (c2 : σ[ld]? = some (.ds (leadD X.low X.st.lead))) (c3 : σ[ga]? = some (.lst (gainsD X.low X.st.gains))) (c4 : σ[li]? = some (.lst (tkD X.low (X.st.gains.map (·.1))))) (hn : [X.tb, ld, ga, li].Nodup) (hl : σ.length = n)
    (h : TR (.fn C A 5 fd17 env) (X.r (some (X.tot [])) (some (.loc n)) (some (.loc (n + 1))) none) (execs (lwB 22) env) ((((σ.set X.tb .dead).set ld .dead).set ga .dead).set li .dead ++ [.ds [], .lst []]) d σ') :
    TR (.fn C A 5 fd17 env) (X.toLw.r2 X.t (some X.od) (some X.ow) (some (.loc ld)) (some (.loc ga)) (some (.loc li))) (execs (lwB 21) env) σ d σ' := by
  simp only [List.nodup_cons, List.mem_cons, List.not_mem_nil, or_false, not_or] at hn
  refine TR.frz 16 (n := X.tb) rfl c1 (.ds _) (TR.frz 22 (n := ld) rfl ((List.getElem?_set_ne hn.1.1).trans c2) (.ds _) (TR.frz 23 (n := ga) rfl ((List.getElem?_set_ne hn.2.1.1).trans ((List.getElem?_set_ne hn.1.2.1).trans c3)) (.lst _) (TR.frz 24 (n := li) rfl ((List.getElem?_set_ne hn.2.2.1).trans ((List.getElem?_set_ne hn.2.1.2).trans ((List.getElem?_set_ne hn.1.2.2).trans c4))) (.lst _) ?_)))
  generalize hσ : (((σ.set X.tb AO.dead).set ld .dead).set ga .dead).set li .dead = τ at h ⊢
  have hτ : τ.length = n := by rw [← hσ]; simp only [List.length_set]; exact hl
  have h2 : (τ ++ [AO.ds []]).length = n + 1 := by rw [List.length_append, hτ]; rfl
  refine TR_cons (TS_asgR (names := ["total", "due", "sets"]) (ds := [X.tot [], .loc n, .loc (n + 1)]) (σ' := τ ++ [.ds [], .lst []]) (TE.to (TE_tuple (ac (TE_tuple (ac TE_int (ac TE_int (ac TE_int (a2 TE_int (tv 15 rfl))))) (Nat.le_of_ble_eq_true rfl)) (a2 (TP.loc made_D TP_d0) (TP.loc made_L (TP_list an (Nat.zero_le _))))) (Nat.le_of_ble_eq_true rfl)) ⟨by rw [hτ, h2]; rfl, List.append_assoc ..⟩) rfl (.cons 27 rfl rfl (.cons 26 rfl rfl (.cons 25 rfl rfl .nil)))) ?_
  exact h
end
end Mine
end
section
open PySem PySem.W PyProof.Rows
namespace Mine
open E2
noncomputable def suB : List Stmt := forB ((pT 17).body.getD 22 (.Pass default))
noncomputable def Lz.q (x : Lz) (S : Nat) (y : Int) (tot due sets : Option D) : Rho := (((x.r tot due sets none).set 28 (some (.str (tokA x.low S)))).set 29 (some (.int y))).set 30 (some (.bool true))
structure Su (x : Lz) (S u : Nat) (y : Int) (g : Nat → Int) : Prop where
  nm : x.nm = namD x.low
  hl : x.low < 28
  ht : x.t = 1 ∨ x.t = -1
  hS : S < 64
  hS0 : S ≠ 0
  hy : 0 ≤ y ∧ y ≤ 1000
  hu : aget x.st.lead S = some u
  hu6 : u < 6
  hub : S.testBit u = false
  hg : aget x.st.tab S = some g
  hgu : g u = 0
  hmin : ∀ v < 6, S.testBit v = false → g v = 0 → prT x.t x.low u ≤ prT x.t x.low v
  Kt : ∀ p ∈ x.st.tab, p.1 < 64 ∧ p.1 ≠ 0
  Kl : ∀ p ∈ x.st.lead, p.1 < 64 ∧ p.1 ≠ 0
section
variable {C : Cx} {A : Around} {env : Env} {X : Lz} {σ σ' : St} {d : D} {S u : Nat} {y : Int} {g : Nat → Int} {gs : Gs} {a b : D}
theorem Su.F (B : Su X S u y g) : X.F S = nmA X.low u := by unfold Lz.F; rw [B.hu]; rfl
theorem Su.ne (B : Su X S u y g) : tokA X.low S ≠ nmA X.low u := fun e => by
  rw [← tok_one X.low u B.hu6] at e
  have := tok_inj B.hl B.hS (pow_lt B.hu6) B.hS0 (Nat.ne_of_gt (Nat.two_pow_pos u)) e
  have hb := B.hub
  rw [this, Nat.testBit_two_pow_self] at hb
  cases hb
theorem Su.lead (B : Su X S u y g) : kget (leadD X.low X.st.lead) (tokA X.low S) = some (.str (nmA X.low u)) := by
  rw [lead_at B.hl B.Kl B.hS B.hS0, B.hu]; rfl
theorem Lz.T_snoc (B : Su X S u y g) : X.T (gs ++ [(S, y)]) = addC (X.T gs) [(tokA X.low S, y), (nmA X.low u, y)] := by
  unfold Lz.T; rw [sumT_snoc, B.F]
theorem gs_sum (gs : Gs) (p : Nat × Int) (f : Nat × Int → Int) : ((gs ++ [p]).map f).sum = f p + (gs.map f).sum := by
  rw [List.map_append, List.sum_append]
  show _ + (f p + 0) = _
  omega
theorem su0 (Q : Pr C) (B : Su X S u y g) (hgl : gs.length ≤ 320) : TS (.fn C A 5 fd17 env) (X.q S y (some (X.tot gs)) (some a) (some b)) (exec (suB.getD 0 (.Pass default)) env) σ .next (X.q S y (some (X.tot (gs ++ [(S, y)]))) (some a) (some b)) (σ ++ [.dead]) := by
  have hbS := bits_ne B.hS B.hS0
  have hT := sumT_len X.F X.low gs
  have hf := stats_fn (σ := σ) Q.G Q.F2 Q.F3 (gs.length, (gs.map fun p => ((bits p.1).length : Int)).sum, (gs.map (·.2)).sum, (gs.map fun p => p.2 * p.2).sum) (1, ((bits S).length : Int), y, y * y) (X.T gs) [(tokA X.low S, y), (nmA X.low u, y)] (sumT_nodup _ _ _) (by show (sumT _ _ _).length + 2 ≤ _; omega)
  rw [← Lz.T_snoc B] at hf
  refine TS_asg (i := 25) (TE.val (call Q.F2 hf (a2 (tv 25 rfl) (TE.val (TE_tuple (ac TE_int (ac (TE_bin (TE_count (y := sComma) (tv 28 rfl) (a1 TE_str)) TE_int bin_add) (ac (tv 29 rfl) (a2 (TE_bin (tv 29 rfl) (tv 29 rfl) (bin_mul (.inl (by have := B.hy; omega)))) (TP.rest made_D (TP_ds2 (tv 28 rfl) (tv 29 rfl) (TE_idx (tv 22 rfl) (tv 28 rfl) (idx_ds (.z _) B.lead)) (tv 29 rfl))))))) (Nat.le_of_ble_eq_true rfl)) ?_))) ?_) rfl rfl rfl
  · rw [(tok_split B.hl hbS).2.1, show kset [(tokA X.low S, D.int y)] (nmA X.low u) (.int y) = intD [(tokA X.low S, y), (nmA X.low u, y)] from if_neg B.ne]; rfl
  · show statD _ _ = statD _ _
    rw [gs_sum, gs_sum, gs_sum, show ((gs ++ [(S, y)]).length : Int) = 1 + gs.length by rw [List.length_append]; show ((gs.length + 1 : Nat) : Int) = _; omega]
theorem bits_filter (S : Nat) : ((List.range 6).filter fun i => (bits S).contains i) = bits S := by
  unfold bits
  refine List.filter_congr fun i hi => ?_
  rw [Bool.eq_iff_iff, List.contains_iff_mem, List.mem_filter]
  exact ⟨fun h => h.2, fun h => ⟨hi, h⟩⟩
theorem str_one : (sComma.length == 0) = false := rfl
theorem su1 (Q : Pr C) (B : Su X S u y g) (hgl : gs.length ≤ 320) {n : Nat} (hn : σ[n]? = some (.lst (gs.map (setD X.low)))) : TS (.fn C A 5 fd17 env) (X.q S y (some a) (some b) (some (.loc n))) (exec (suB.getD 1 (.Pass default)) env) σ .next (X.q S y (some a) (some b) (some (.loc n))) (σ.set n (.lst ((gs ++ [(S, y)]).map (setD X.low)))) := by
  have hbS := bits_ne B.hS B.hS0
  have ⟨s1, _, s3⟩ := tok_split B.hl hbS
  have h4 := tok_len (low := X.low) (m := S) B.hl
  have h5 := bits_le S
  refine TS.st (TS_ex (TE_append (d := setD X.low (S, y)) hn hn (by rw [List.length_map]; omega) (tv 27 rfl) (a1 (TE.val (TE_tuple (a2 (TP.rest made_L (TP_lf [31] (fun i : Nat => .str (nmA X.low i)) (fun i => .str (nmA X.low i)) (fun i => (bits S).contains i) (List.range 6) (TI_of (TE.val (tv 5 rfl) B.nm) iter_lst) rfl (by decide) fun cenv i m => ⟨.v (i := 31) rfl rfl, .set rfl, TT_one (TB.to (TB_cmp (tv 31 rfl) (TE.val (TE_split1 (y := sComma) str_one (by omega) (by rw [s3, List.length_map]; omega) (tv 28 rfl) (a1 TE_str)) (by rw [s1])) (cmp_inl (.z _)) rfl) (has_blk B.hl (List.mem_range.mp m) fun p hp => (bits_lt hp).1)), fun u0 => tv 31 rfl⟩)) (tv 29 rfl)) (Nat.le_of_ble_eq_true rfl)) (by rw [bits_filter]; rfl))))) (by rw [List.map_append]; rfl)
end
end Mine
end
section
open PySem PySem.W PyProof.Rows
namespace Mine
open E2
section
variable {C : Cx} {A : Around} {env : Env} {X : Lz} {σ σ' τ : St} {d : D} {S u n m : Nat} {y : Int} {g : Nat → Int} {gs : Gs} {a b : D} {T : List (Str × Int)} {k : Str}
theorem due1 {ρ : Rho} (h26 : ρ[26]? = some (some (.loc n))) (h31 : ρ[31]? = some (some (.str k))) (h29 : ρ[29]? = some (some (.int y))) (hn : σ[n]? = some (.ds (intD T))) (hT : T.length ≤ 1000) : TS (.fn C A 5 fd17 env) ρ (execs (forB (suB.getD 2 (.Pass default))) env) σ .next ρ (σ.set n (.ds (intD (aset T k ((aget T k).getD 0 + y))))) := by
  refine TS_cons (TS.st (TS_seti (d := .int ((aget T k).getD 0 + y)) (TE_bin (TE.val (TE_getS (.o hn) (.o hn) (tv 26 h26) (a2 (tv 31 h31) TE_int)) (d' := .int ((aget T k).getD 0)) ?_) (tv 29 h29) bin_add) (tv 26 h26) (tv 31 h31) hn (by rw [intD, mapD_len]; omega)) (by rw [intD_set])) TS_nil
  rw [intD_get]
  cases aget T k <;> rfl
theorem su2 (B : Su X S u y g) (hgl : gs.length ≤ 320) (hn : σ[n]? = some (.ds (intD (X.T gs)))) (hm : σ[m]? = some (.lst ((gs ++ [(S, y)]).map (setD X.low)))) :
    TS (.fn C A 5 fd17 env) (X.q S y (some a) (some (.loc n)) (some (.loc m))) (exec (suB.getD 2 (.Pass default)) env) σ .next (X.q S y (some a) (some (.loc n)) (some (.loc m))) (σ.set n (.ds (intD (X.T (gs ++ [(S, y)]))))) := by
  have hT : (X.T gs).length ≤ 640 := by have := sumT_len X.F X.low gs; exact Nat.le_trans this (by omega)
  have hT1 := aset_len (X.T gs) (tokA X.low S) ((aget (X.T gs) (tokA X.low S)).getD 0 + y)
  rw [List.map_append] at hm
  refine TS.fgt [31] (TS_for (n := 2) (TI_of (TE_tuple (a2 (TE_join (ss := (bits S).map (nmA X.low)) (sep := sComma) (join_ok 22 (fun t q => by
    obtain ⟨i, hi, rfl⟩ := List.mem_map.mp q
    exact Nat.add_le_add_right (nmA_len B.hl (bits_lt hi).1) 2) (by rw [List.length_map]; have := bits_le S; omega)) TE_str (.z _) (a1 (TE.val (TE_idx (TE_idx (tv 27 rfl) (TE_neg TE_int) (idx_last (.o hm) (by rw [List.length_map]; omega))) TE_int idx_t0) (by rw [List.map_map]; rfl)))) (TE_idx (tv 22 rfl) (tv 28 rfl) (idx_ds (.z _) B.lead))) (Nat.le_of_ble_eq_true rfl)) iter_tup)
    (.next (.some _ _ _) (.v (i := 31) rfl rfl) (due1 rfl rfl rfl hn (by omega)) (.next (.some _ _ _) (.v (i := 31) rfl rfl) (TS.st (due1 rfl rfl rfl (get_set hn) (Nat.le_trans hT1 (by omega))) ((List.set_set ..).trans (by rw [Lz.T_snoc B]; rfl))) (.done (.none _) TS_nil))))
end
end Mine
end
section
open PySem PySem.W PyProof.Rows
namespace Mine
open E2
section
variable {C : Cx} {A : Around} {env : Env} {X : Lz} {σ σ' τ : St} {d : D} {S u n m : Nat} {y : Int} {g : Nat → Int} {gs : Gs} {a b : D} {x y' : AO} {r : List AO}
theorem one_pl {s : Str} (h : PyData.strOk s = true) : Pl 3 (.list [.str s]) := .list (.cons (.str h) .nil)
theorem one_rd {s : Str} : Rd σ (.lst [.str s]) (.list [.str s]) := rd_lst (.z _) (rdL_cons rd_str rdL_nil)
theorem su3 (Q : Pr C) (B : Su X S u y g) : TS (.fn C A 5 fd17 env) (X.q S y (some d) (some a) (some b)) (exec (suB.getD 3 (.Pass default)) env) σ .next (X.q S y (some d) (some a) (some b)) σ := by
  obtain ⟨L, hp, hs, hL, r, hr, he⟩ := lead_first (xs := (outs S).filter fun v => decide (g v = 0)) B.hl B.ht (fun v m => outs_lt v (List.mem_filter.mp m).1) (Nat.le_trans (List.length_filter_le _ _) (outs_len S)) (List.mem_filter.mpr ⟨outs_mem.mpr ⟨B.hu6, B.hub⟩, decide_eq_true B.hgu⟩) (fun v m => by
    have ⟨h1, h2⟩ := List.mem_filter.mp m
    exact B.hmin v (outs_lt v h1) (outs_mem.mp h1).2 (of_decide_eq_true h2))
  have ht0 : some X.t ≠ some 0 := fun e => by have := Option.some.inj e; rcases B.ht with h | h <;> rw [h] at this <;> cases this
  have hz : ((outs S).filter fun v => decide (g v = 0)).length ≤ 6 := Nat.le_trans (List.length_filter_le _ _) (outs_len S)
  refine TS_if_f (TB_boolop (TB_or (p := false) (q := false) (TB_not (q := true) (TB_value (tv 30 rfl) truth_bool)) (TB_or (p := false) (q := false) (TB_cmp (a := .lst [.str (nmA X.low u)]) (b := .lst [.str (nmA X.low u)]) ?_ (TE_list (a1 (TE_idx (tv 22 rfl) (tv 28 rfl) (idx_ds (.z _) B.lead))) (Nat.le_of_ble_eq_true rfl)) (cmp_same (one_pl (nmA_ok B.hl B.hu6)) (by decide) one_rd one_rd) rfl) TB_or_nil))) TS_nil
  refine TE.val (TE_sl (TE.val (TE_sl (TE_bi Q.G.sorted (by kernel_rfl) rfl rfl (a1 (TP.rest made_L (TP_lf [12, 18] (fun v : Nat => .tup [.str (nmA X.low v), .int (g v)]) (fun v => .str (nmA X.low v)) (fun v => decide (g v = 0)) (outs S) (TI_items (TE_idx (tv 16 rfl) (tv 28 rfl) (idx_ds (.z _) (tab_at B.hl B.Kt B.hS B.hS0 B.hg)))) (by rw [rows_intD, List.map_map]; rfl) (Nat.le_trans (outs_len S) (by decide)) fun cenv v m =>
    ⟨.t (.cons (i := 12) rfl rfl (.cons (i := 18) rfl rfl (.nil _))), (Le.set rfl).trans (.set rfl), TT_one (TB.to (TB_cmp (tv 18 rfl) TE_int cmp_eqi rfl) (Bool.eq_iff_iff.mpr (by rw [beq_iff_eq, decide_eq_true_iff]))), fun u0 => tv 12 rfl⟩))) fun q r => bi_sorted (ss := ((outs S).filter fun v => decide (g v = 0)).map (nmA X.low)) (ss' := L) (by rw [List.map_map]; exact .z _) hp hs (by rw [List.length_map]; omega) q.I r)
    TE_part_none TE_part_none (TE_part_some (tv 19 rfl)) .none .none (.int _) (sl_lst (.z _) ht0 (by rw [List.length_map]; omega))) (congrArg D.lst he)) TE_part_none (TE_part_some TE_int) TE_part_none .none (.int _) .none (sl_lst (l := .str (nmA X.low u) :: r) (.z _) (by decide) (by rw [List.length_cons]; omega))) (congrArg D.lst (slx_one (by rw [List.length_cons]; omega)))
theorem mid_0 (h : τ.length = n) : (τ ++ x :: y' :: r)[n]? = some x := by rw [List.getElem?_append_right (by omega), h, Nat.sub_self]; rfl
theorem mid_1 (h : τ.length = n) : (τ ++ x :: y' :: r)[n + 1]? = some y' := by rw [List.getElem?_append_right (by omega), h, Nat.add_sub_cancel_left]; rfl
theorem mid_s0 (h : τ.length = n) (z : AO) : (τ ++ x :: y' :: r).set n z = τ ++ z :: y' :: r := by rw [List.set_append_right _ _ (by omega), h, Nat.sub_self]; rfl
theorem mid_s1 (h : τ.length = n) (z : AO) : (τ ++ x :: y' :: r).set (n + 1) z = τ ++ x :: z :: r := by rw [List.set_append_right _ _ (by omega), h, Nat.add_sub_cancel_left]; rfl
noncomputable def Lz.Sg (X : Lz) (τ : St) (gs : Gs) : St := τ ++ .ds (intD (X.T gs)) :: .lst (gs.map (setD X.low)) :: List.replicate gs.length .dead
theorem Lz.Sg_app (X : Lz) (τ : St) (gs : Gs) : X.Sg τ gs ++ [.dead] = τ ++ .ds (intD (X.T gs)) :: .lst (gs.map (setD X.low)) :: List.replicate (gs.length + 1) .dead := by
  unfold Lz.Sg
  rw [List.append_assoc, List.replicate_succ']; rfl
theorem lw_22 (Q : Pr C) (B : ∀ p ∈ X.st.gains, ∃ u g, Su X p.1 u p.2 g) (hgl : X.st.gains.length ≤ 320) (hτ : τ.length = n)
    (h : TR (.fn C A 5 fd17 env) (X.r (some (X.tot X.st.gains)) (some (.loc n)) (some (.loc (n + 1))) none) (execs (lwB 23) env) (X.Sg τ X.st.gains) d σ') :
    TR (.fn C A 5 fd17 env) (X.r (some (X.tot [])) (some (.loc n)) (some (.loc (n + 1))) none) (execs (lwB 22) env) (τ ++ [.ds [], .lst []]) d σ' := by
  refine TR_cons (TS_for (TI_of (tv 23 rfl) iter_lst) (Run.scan0 (R := fun l => X.r (some (X.tot l)) (some (.loc n)) (some (.loc (n + 1))) none) (S := X.Sg τ) X.st.gains rfl fun done p todo e => ?_)) h
  obtain ⟨u, g, b⟩ := B p (by rw [e]; exact List.mem_append_right _ (.head _))
  have hdl : done.length ≤ 320 := by have := congrArg List.length e; rw [List.length_append] at this; omega
  obtain ⟨S, y⟩ := p
  refine ⟨_, _, .t (.cons (i := 28) rfl rfl (.cons (i := 29) rfl rfl (.cons (i := 30) rfl rfl (.nil _)))), .inl rfl, TS_cons (TS.st (su0 Q b hdl) (X.Sg_app τ done)) (TS_cons (TS.st (su1 Q b hdl (mid_1 hτ)) (mid_s1 hτ _)) (TS_cons (TS.st (su2 b hdl (mid_0 hτ) (mid_1 hτ)) ((mid_s0 hτ _).trans ?_)) (TS_cons (su3 Q b) (TS_nilf [28, 29, 30]))))⟩
  unfold Lz.Sg
  rw [List.length_append]; rfl
end
end Mine
end
section
open PySem PySem.W PyProof.Rows
namespace Mine
open E2
noncomputable def cI (ds : List Nat) (v u : Nat) : Int := ((cN ds v u : Nat) : Int)
noncomputable def keyN (i : Nat) : Int := ((2 * i + 1 : Nat) : Int)
noncomputable def bestL (ds : List Nat) (k : Nat) : List (Int × D) := (List.range (k + 1)).map fun i => (keyN i, .int (V (cI ds) 64 (2 * i + 1)))
theorem kget_rng (F : Nat → D) {j : Nat} : ∀ n a, a ≤ j → j < a + n → kget ((List.range' a n).map fun i => (keyN i, F i)) (keyN j) = some (F j)
  | 0, _, h, k => absurd h (by omega)
  | n + 1, a, h, k => by
    rw [List.range'_succ, List.map_cons]
    unfold kget
    by_cases e : a = j
    · rw [e, if_pos rfl]
    · rw [if_neg (by unfold keyN; omega)]
      exact kget_rng F n (a + 1) (by omega) (by omega)
theorem best_get (ds : List Nat) {j k : Nat} (h : j ≤ k) : kget (bestL ds k) (keyN j) = some (.int (V (cI ds) 64 (2 * j + 1))) := by
  unfold bestL
  rw [List.range_eq_range']
  exact kget_rng (fun i => .int (V (cI ds) 64 (2 * i + 1))) (k + 1) 0 (Nat.zero_le _) (by omega)
theorem best_set (ds : List Nat) (k : Nat) : kset (bestL ds k) (keyN (k + 1)) (.int (V (cI ds) 64 (2 * (k + 1) + 1))) = bestL ds (k + 1) := by
  rw [kset_new]
  · unfold bestL
    rw [List.range_succ (n := k + 1), List.map_append]; rfl
  · unfold bestL
    rw [List.map_map]
    intro m
    obtain ⟨i, hi, e⟩ := List.mem_map.mp m
    have := List.mem_range.mp hi
    unfold keyN at e
    simp only [Function.comp_apply] at e
    omega
theorem prs_flat (m : Nat) (F : Nat → Nat → Int) : ((inM m).tail.flatMap fun v => ((inM m).filter fun u => u != v).map fun u => D.int (F v u)) = ((prs m).map fun p => F p.1 p.2).map .int := by
  unfold prs
  rw [List.map_flatMap, List.map_flatMap]
  refine congrArg (fun f => List.flatMap f _) (funext fun v => ?_)
  rw [List.map_map, List.map_map]; rfl
theorem prs_len (m : Nat) : (prs m).length ≤ 36 ∧ (inM m).length ≤ 6 := by
  have h6 : (inM m).length ≤ 6 := Nat.le_trans (List.length_filter_le _ _) (Nat.le_of_eq List.length_range)
  refine ⟨?_, h6⟩
  have : ∀ l : List Nat, (l.flatMap fun v => ((inM m).filter fun u => u != v).map fun u => (v, u)).length ≤ 6 * l.length := fun l => by
    induction l with
    | nil => exact Nat.le_refl _
    | cons v l ih =>
      have h := List.length_filter_le (fun u => u != v) (inM m)
      rw [List.flatMap_cons, List.length_append, List.length_map, List.length_cons]
      omega
  have := this (inM m).tail
  rw [List.length_tail] at this
  exact Nat.le_trans this (by omega)
theorem xor_nat : ∀ m : Nat, m < 64 → ∀ v : Nat, v < 6 → Builtin.bitXor ((m : Nat) : Int) ((1 : Int) * (2 : Int) ^ (v : Int).toNat) = ((m ^^^ 2 ^ v : Nat) : Int) := by decide +kernel
theorem bit_mask (m i : Nat) : (Builtin.bitAnd ((m : Int).fdiv (2 ^ (i : Int).toNat)) 1 != 0) = m.testBit i := by
  have h2 : (2 : Int) ^ (i : Int).toNat = ((2 ^ i : Nat) : Int) := by rw [Int.toNat_natCast, Int.natCast_pow]; rfl
  rw [h2, fdiv_nat, show (1 : Int) = ((1 : Nat) : Int) from rfl, land_nat, Nat.and_one_is_mod, Nat.testBit_eq_decide_div_mod_eq]
  have : m / 2 ^ i % 2 = 0 ∨ m / 2 ^ i % 2 = 1 := by omega
  rcases this with h | h <;> rw [h] <;> rfl
noncomputable def dpB : List Stmt := forB ((pT 17).body.getD 24 (.Pass default))
section
variable {C : Cx} {A : Around} {env : Env} {X : Lz} {σ σ' τ : St} {d a b e : D} {n k : Nat} {ds : List Nat}
theorem dp_go (Q : Pr C) (hco : X.co = costD ds) (hk : k < 31) (hn : σ[n]? = some (.di (bestL ds k))) : TS (.fn C A 5 fd17 env) ((X.r (some a) (some b) (some e) (some (.loc n))).set 33 (some (.int (keyN (k + 1))))) (execs dpB env) σ .next (X.r (some a) (some b) (some e) (some (.loc n))) (σ.set n (.di (bestL ds (k + 1)))) := by
  generalize hm : 2 * (k + 1) + 1 = m
  have hm6 : m < 64 := by omega
  have h0 : m.testBit 0 = true := by rw [Nat.testBit_zero]; exact decide_eq_true (by omega)
  have h1 : m ≠ 1 := by omega
  have hkey : keyN (k + 1) = (m : Int) := by unfold keyN; rw [hm]
  have hodd := inM_odd h0
  have ⟨hpl, hil⟩ := prs_len m
  refine TS_cons (TS.to (TS_lf0 34 [40] (fun i : Nat => .int (i : Nat)) (fun i => .int (i : Nat)) m.testBit (List.range 6) (TI_range1 (n := 6) Q.G.range (by kernel_rfl) rfl (a1 TE_int) (by decide)) rfl (by decide) (fun cenv i hi => ⟨.v (i := 40) rfl rfl, .set rfl, TT_one (TB.to (TB_value (TE_bin (TE_bin (TE.val (tv 33 rfl) (congrArg D.int hkey)) (tv 40 rfl) (bin_shr (Int.natCast_nonneg _))) TE_int bin_and) truth_int) (bit_mask m i)), fun u0 => tv 40 rfl⟩) rfl rfl) ⟨rfl, rfl⟩) ?_
  refine TS_cons (TS.st (TS_setI (d := .int (V (cI ds) 64 m)) (k := keyN (k + 1)) (TE_bi Q.G.min (by kernel_rfl) rfl rfl (a1 (TP.rest made_L (TP_ll [10, 12] (fun v : Nat => .int (v : Nat)) (inM m) (fun u => .int (u : Nat)) (fun v u => .int (V (cI ds) 64 (m ^^^ 2 ^ v) + cI ds v u)) (fun v u => u != v) (inM m).tail
    (TI_of (TE.val (TE_sl (tv 34 rfl) (TE_part_some TE_int) TE_part_none TE_part_none (.int _) .none .none (sl_lst (l := natD (inM m)) (.z _) (by decide) (by unfold natD; rw [List.length_map]; omega))) (congrArg D.lst (show slx (some 1) none none (natD (inM m)) = natD (inM m).tail by rw [hodd.1]; exact slx_tail (by rw [hodd.1] at hil; show (List.map _ (inM m).tail).length + 1 ≤ 6; rw [List.length_map]; exact hil)))) iter_lst) rfl (by rw [prs_flat, List.length_map, List.length_map]; omega) fun cenv v hv =>
    ⟨.v (i := 10) rfl rfl, .set rfl, TI_of (tv 34 rfl) iter_lst, fun u hu => ⟨.v (i := 12) rfl rfl, .set rfl, TT_one (TB.to (TB_cmp (tv 12 rfl) (tv 10 rfl) cmp_nei rfl) ?_), fun u0 => ?_⟩⟩)))
    fun q r => bi_min (ns := (prs m).map fun p => V (cI ds) 64 (m ^^^ 2 ^ p.1) + cI ds p.1 p.2) (by rw [prs_flat]; exact .z _) ?_ (fun x hx => ?_) q.o.room.handled q.I r) (tv 32 rfl) (tv 33 rfl) hn (by unfold bestL; rw [List.length_map, List.length_range]; omega)) ?_) (TS_nilf [33, 34])
  · exact congrArg not (Bool.eq_iff_iff.mpr (by rw [beq_iff_eq, beq_iff_eq]; omega))
  · obtain ⟨hv6, hv0, hvm⟩ := (hodd.2 v).mp hv
    obtain ⟨z, i1, i2⟩ := cost_at (σ := σ) (ds := ds) (v := v) (u := u) ⟨by omega, hv6⟩ (inM_mem.mp hu).1
    have hlt := xor_lt hvm
    have hx0 : (m ^^^ 2 ^ v).testBit 0 = true := by rw [xor_bit, h0, decide_eq_false hv0]; rfl
    rw [Nat.testBit_zero, decide_eq_true_iff] at hx0
    obtain ⟨j, hj⟩ : ∃ j, m ^^^ 2 ^ v = 2 * j + 1 := ⟨(m ^^^ 2 ^ v) / 2, by omega⟩
    have hg := best_get ds (j := j) (k := k) (by omega)
    rw [← hj, show keyN j = ((m ^^^ 2 ^ v : Nat) : Int) by unfold keyN; rw [hj]] at hg
    refine TE_bin (TE_idx (tv 32 rfl) (TE.val (TE_bin (TE.val (tv 33 rfl) (congrArg D.int hkey)) (TE_bin TE_int (tv 10 rfl) (bin_shl (by decide) (Int.natCast_nonneg _) (by omega))) bin_xor) (congrArg D.int (xor_nat m hm6 v hv6))) (idx_di (.o hn) hg)) (TE_idx (TE_idx (TE.val (tv 7 rfl) hco) (tv 10 rfl) i1) (tv 12 rfl) i2) bin_add
  · rw [V_eq (cI ds) m hm6 h0 h1]
    exact minOf_mem fun e => prs_ne hm6 h0 h1 (List.map_eq_nil_iff.mp e)
  · rw [V_eq (cI ds) m hm6 h0 h1]
    exact minOf_le hx
  · rw [← hm, best_set]
end
end Mine
end
section
open PySem PySem.W PyProof.Rows
namespace Mine
open E2
theorem getItem_four {prog : Program} {wd : World} {A : Around} {E : Value → Shared → Prop} {s : Shared} {t sl : Addr} {a b c d e : Value} {k : Tok} {Q : Value → Shared → Prop} (ht : IsTup s.heap t #[a, b, c, d, e]) (hs : s.heap.IsSliceOf sl .none (.int 4 k) .none)
    (h : Q (.ref s.heap.objs.size) { s with heap := s.heap.push { cls := .type "tuple", data := .seq #[a, b, c, d] } }) : wpAny (model prog wd) A (getItem (.ref t) (.ref sl)) Q E s := by
  obtain ⟨os, hos, hcs, hds⟩ := id hs
  unfold getItem
  try with_reducible refine wpAny_holding ?_
  first | refine wpAny_bind (wpAny_pure ?_) | skip
  refine wpAny_bind (wpAny_sequenceKey ht.typeIs (by decide) ?_)
  refine wpAny_bind (wpAny_callSpecial?_slot (name := Str.ofString "__getitem__") ht.typeIs slot_tuple_getitem
    (wpAny_call_entry slot_tuple_getitem ht.typeIs entry_tuple_getitem ?_ (args_tuple_getitem _ _)))
  show wpAny _ _ (Builtin.Tuple.tupleItemsOf (.ref t) >>= _) _ _ s
  refine wpAny_bind (tupleItemsOf_ ht ?_)
  refine wpAny_bind (wpAny_typeOf (show s.TypeIs (.ref sl) "slice" from ⟨os, hos, hcs⟩) ?_)
  rw [if_pos (by decide)]
  have ap : ∀ {A : Around} {E : Value → Shared → Prop} {P : Int × Int × Nat → Shared → Prop}, P (0, 1, 4) s → wpAny (model prog wd) A (Builtin.Slice.sliceApplied (.ref sl) (pure 5)) P E s := by
    intro A E P hP
    unfold Builtin.Slice.sliceApplied Builtin.Slice.sliceFields
    refine wpAny_bind (wpAny_bind (wpAny_field hos hds (x := .none) rfl (wpAny_bind (wpAny_field hos hds (x := .int 4 k) rfl (wpAny_bind (wpAny_field hos hds (x := .none) rfl (wpAny_pure ?_)))))))
    refine wpAny_bind (slicePart_none ?_)
    show wpAny _ _ (if ((1 : Int) == 0) = true then _ else _) _ _ s
    rw [if_neg (by decide)]
    exact wpAny_bind (slicePart_none (wpAny_bind (slicePart_int (wpAny_bind (wpAny_pure (wpAny_pure hP))))))
  refine wpAny_bind (ap ?_)
  first
    | exact wpAny_bind (m := Builtin.Tuple.tupleExact _) (wpAny_newObj_type (wpAny_pure ⟨_, rfl, wpAny_pure h⟩) (show 4 ≤ sizeLine by decide))
    | exact wpAny_bind (m := Builtin.Tuple.tupleExact _) (wpAny_newObj_type (wpAny_bind (wpAny_pure (wpAny_pure ⟨_, rfl, wpAny_pure h⟩))) (show 4 ≤ sizeLine by decide))
    | exact wpAny_bind (wpAny_bind (m := Builtin.Tuple.tupleExact _) (wpAny_newObj_type (wpAny_pure (wpAny_pure ⟨_, rfl, wpAny_pure h⟩)) (show 4 ≤ sizeLine by decide)))
    | exact wpAny_bind (wpAny_bind (m := Builtin.Tuple.tupleExact _) (wpAny_newObj_type (wpAny_pure ⟨_, rfl, wpAny_pure h⟩) (show 4 ≤ sizeLine by decide)))
theorem sl_four {σ : St} {a b c d e : D} : SlOk σ (.tup [a, b, c, d, e]) none (some 4) none (.tup [a, b, c, d]) := fun u0 u0 u0 u0 u0 u0 u0 u0 sa I ro px py pz hs => by
  obtain ⟨p, u1, n, z, u2, u3, ra, u4, u5, rb, u6, u7, rc, u8, u9, rd, u10, u11, re, e'⟩ := ro
  cases e'
  cases px; cases py; cases pz
  exact ⟨_, _, F.slot_tuple_getitem.lookup, ⟨_, z.is, rfl⟩, getItem_four ⟨_, z.is, rfl, n, rfl⟩ ⟨_, hs, rfl, rfl⟩ (out_tup I _ ⟨_, _, ra, _, _, rb, _, _, rc, _, _, rd, rfl⟩)⟩
end Mine
end
section
open PySem PySem.W PyProof.Rows
namespace Mine
open E2
theorem range_split {n i : Nat} {a b : List Nat} (e : List.range n = a ++ i :: b) : i = a.length ∧ i < n := by
  have h : (List.range n)[a.length]? = some i := by rw [e, List.getElem?_append_right (Nat.le_refl _), Nat.sub_self]; rfl
  have hl : a.length < n := by have := congrArg List.length e; rw [List.length_range, List.length_append, List.length_cons] at this; omega
  rw [List.getElem?_range hl] at h
  cases h
  exact ⟨rfl, hl⟩
noncomputable def Lz.fin (X : Lz) (τ : St) (n : Nat) : St := ((X.Sg τ X.st.gains).set n .dead).set (n + 1) .dead
section
variable {C : Cx} {A : Around} {env : Env} {X : Lz} {σ σ' τ : St} {d a b e : D} {n k : Nat} {ds : List Nat}
theorem lw_23 (Q : Pr C) (hco : X.co = costD ds) (hτ : τ.length = n)
    (h : TR (.fn C A 5 fd17 env) (X.r (some (X.tot X.st.gains)) (some (.ds (intD (X.T X.st.gains)))) (some (.lst (X.st.gains.map (setD X.low)))) (some (.di (bestL ds 31)))) (execs (lwB 25) env) (X.fin τ n ++ [.dead]) d σ') :
    TR (.fn C A 5 fd17 env) (X.r (some (X.tot X.st.gains)) (some (.loc n)) (some (.loc (n + 1))) none) (execs (lwB 23) env) (X.Sg τ X.st.gains) d σ' := by
  refine TR.frz 26 (n := n) rfl (mid_0 hτ) (.ds _) (TR.frz 27 (n := n + 1) rfl ((List.getElem?_set_ne (Nat.ne_of_lt (Nat.lt_succ_self n))).trans (mid_1 hτ)) (.lst _) ?_)
  show TR _ _ _ (X.fin τ n) _ _
  generalize X.fin τ n = σ at h ⊢
  refine TR_cons (TS_asg (i := 32) (TP.loc made_I (TP_di1 TE_int TE_int)) rfl rfl rfl) ?_
  refine TR_cons (TS_for (TI_range3 (n := 31) (f := fun i => keyN (i + 1)) Q.G.range (by kernel_rfl) rfl (ac TE_int (a2 TE_int TE_int)) (by decide) (by decide) (by decide) fun i => by unfold keyN; omega) (Run.scan0 (R := fun u0 => X.r (some (X.tot X.st.gains)) (some (.ds (intD (X.T X.st.gains)))) (some (.lst (X.st.gains.map (setD X.low)))) (some (.loc σ.length))) (S := fun l => σ ++ [.di (bestL ds l.length)]) (List.range 31) rfl fun done i todo e => ?_)) ?_
  · obtain ⟨rfl, hi⟩ := range_split e
    exact ⟨_, _, .v (i := 33) rfl rfl, .inl rfl, TS.st (dp_go Q hco hi at_len) (by rw [set_len, List.length_append]; rfl)⟩
  · exact TR.frz 32 (n := σ.length) rfl at_len (.di _) (by rw [set_len]; exact h)
end
end Mine
end
section
open PySem PySem.W PyProof.Rows
namespace Mine
open E2
noncomputable def Lz.e (X : Lz) (ds : List Nat) : Rho := X.r (some (X.tot X.st.gains)) (some (.ds (intD (X.T X.st.gains)))) (some (.lst (X.st.gains.map (setD X.low)))) (some (.di (bestL ds 31)))
section
variable {C : Cx} {A : Around} {env : Env} {X : Lz} {σ σ' τ : St} {d a b e : D} {n k : Nat} {ds : List Nat}
theorem best63 (hall : (X.st.gains.map (·.2)).sum = V (cI ds) 64 63) : TE (.fn C A 5 fd17 env) (X.e ds) (eval (.Subscript (.Name "best" p) (.Constant (.int 63) 0 p') p'') env) σ (.int (X.st.gains.map (·.2)).sum) σ :=
  TE_idx (tv 32 rfl) TE_int (idx_di (.z _) (by rw [hall]; exact best_get ds (j := 31) (Nat.le_refl _)))
theorem Pl.items {T : List (Str × Int)} (h : ∀ q ∈ T, PyData.strOk q.1 = true) : Pl 4 (.list (T.map fun q => .tuple [.str q.1, .int q.2])) := .list (.map fun q m => .tuple (.cons (.str (h q m)) (.cons .int .nil)))
theorem rd_items {T : List (Str × Int)} : Rd σ (.lst ((intD T).map fun p => .tup [.str p.1, p.2])) (.list (T.map fun q => .tuple [.str q.1, .int q.2])) :=
  rd_lst (.z _) (by rw [intD, mapD, List.map_map]; exact rdL_map fun q m => rd_tup (rdL_cons rd_str (rdL_cons rd_int rdL_nil)))
theorem four_rd {a b c d : Int} : Rd σ (.tup [.int a, .int b, .int c, .int d]) (.tuple [.int a, .int b, .int c, .int d]) := rd_tup (rdL_cons rd_int (rdL_cons rd_int (rdL_cons rd_int (rdL_cons rd_int rdL_nil))))
theorem four_pl {a b c d : Int} : Pl 3 (.tuple [.int a, .int b, .int c, .int d]) := .tuple (.cons .int (.cons .int (.cons .int (.cons .int .nil))))
theorem lw_25 (Q : Pr C) (hall : (X.st.gains.map (·.2)).sum = V (cI ds) 64 63) (hgl : X.st.gains.length ≤ 320) (hy : ∀ p ∈ X.st.gains, 0 ≤ p.2 ∧ p.2 ≤ 1000) (hok : ∀ q ∈ X.T X.st.gains, PyData.strOk q.1 = true)
    (h : TR (.fn C A 5 fd17 env) (X.e ds) (execs (lwB 26) env) σ d σ') : TR (.fn C A 5 fd17 env) (X.e ds) (execs (lwB 25) env) σ d σ' := by
  have hT : (intD (X.T X.st.gains)).length ≤ 1000000 := by
    have := sumT_len X.F X.low X.st.gains
    rw [intD, mapD_len]
    exact Nat.le_trans this (by omega)
  refine TR_cons (TS_if_f (TB_boolop (TB_or (p := false) (q := false) (TB_cmp (TE_sl (tv 25 rfl) TE_part_none (TE_part_some TE_int) TE_part_none .none (.int _) .none sl_four)
    (TE.val (TE_tuple (ac (TE_bi Q.G.len (by kernel_rfl) rfl rfl (a1 (tv 24 rfl)) fun q r => bi_len (.z _) (by unfold tkD; rw [List.length_map, List.length_map]; omega) q.I r)
      (ac (TE_bi Q.G.sum (by kernel_rfl) rfl rfl (a1 (TP.rest made_L (TP_lm [41, 29] (setD X.low) (fun p => .int ((bits p.1).length : Int)) X.st.gains (TI_of (tv 27 rfl) iter_lst) rfl (by omega) fun cenv p m =>
          ⟨.t (.cons (i := 41) rfl rfl (.cons (i := 29) rfl rfl (.nil _))), (Le.set rfl).trans (.set rfl), TE.val (TE_bi Q.G.len (by kernel_rfl) rfl rfl (a1 (tv 41 rfl)) fun q r => bi_len (.z _) (by rw [List.length_map]; have := bits_le p.1; omega) q.I r) (by rw [List.length_map])⟩))) fun q r => bi_sum (ns := X.st.gains.map fun p => ((bits p.1).length : Int)) (by rw [List.map_map]; exact .z _) q.o.room.handled q.I r)
      (a2 (best63 hall)
        (TE_bi Q.G.sum (by kernel_rfl) rfl rfl (a1 (TP.rest made_L (TP_lm [41, 29] (setD X.low) (fun p => .int (p.2 * p.2)) X.st.gains (TI_of (tv 27 rfl) iter_lst) rfl (by omega) fun cenv p m =>
          ⟨.t (.cons (i := 41) rfl rfl (.cons (i := 29) rfl rfl (.nil _))), (Le.set rfl).trans (.set rfl), TE_bin (tv 29 rfl) (tv 29 rfl) (bin_mul (.inl (by have := hy p m; omega)))⟩))) fun q r => bi_sum (ns := X.st.gains.map fun p => p.2 * p.2) (by rw [List.map_map]; exact .z _) q.o.room.handled q.I r)))) (Nat.le_of_ble_eq_true rfl)) (by unfold tkD; rw [List.length_map, List.length_map])) (cmp_same four_pl (by decide) four_rd four_rd) rfl)
    (TB_or (p := false) (q := false) (TB_cmp (TE_listItems Q.G.list (by kernel_rfl) (TE_idx (tv 25 rfl) TE_int (idx_tup (j := 4) rfl (by decide))) hT) (TE_listItems Q.G.list (by kernel_rfl) (tv 26 rfl) hT) (cmp_same (Pl.items hok) (by decide) rd_items rd_items) rfl) TB_or_nil))) TS_nil) h
end
end Mine
end
section
open PySem PySem.W PyProof.Rows
namespace Mine
open E2
noncomputable def feB : List Stmt := forB ((pT 17).body.getD 26 (.Pass default))
section
variable {C : Cx} {A : Around} {env : Env} {X : Lz} {σ σ' τ : St} {d a b e : D} {n k v u : Nat} {ds : List Nat}
theorem bits_has {S v : Nat} (hv : v < 6) : (bits S).contains v = S.testBit v := by
  rw [Bool.eq_iff_iff, List.contains_iff_mem, mem_bits]
  exact ⟨fun h => h.2, fun h => ⟨hv, h⟩⟩
theorem nm_at (hnm : X.nm = namD X.low) {u : Nat} (hu : u < 6) : IdxOk σ X.nm (.int (u : Nat)) (.str (nmA X.low u)) := hnm ▸ idx_lst (.z _) (by rw [List.getElem?_map, List.getElem?_range hu]; rfl) (by omega)
theorem fe_go (Q : Pr C) (hl : X.low < 28) (hnm : X.nm = namD X.low) (hco : X.co = costD ds) (hv : 1 ≤ v ∧ v < 6) (hu : u < 6) (hd : dual X.st.gains u v ≤ cI ds v u) (hgl : X.st.gains.length ≤ 320) :
    TS (.fn C A 5 fd17 env) (((X.e ds).set 10 (some (.int (v : Nat)))).set 12 (some (.int (u : Nat)))) (execs (forB (feB.getD 0 (.Pass default))) env) σ .next (((X.e ds).set 10 (some (.int (v : Nat)))).set 12 (some (.int (u : Nat)))) σ := by
  obtain ⟨z, i1, i2⟩ := cost_at (σ := σ) (ds := ds) hv hu
  refine TS_cons (TS_if_f (TB.to (TB_cmp (TE_bi Q.G.sum (by kernel_rfl) rfl rfl (a1 (TP.rest made_L (TP_lf [41, 29] (setD X.low) (fun p => .int p.2) (fun p => p.1.testBit v && !p.1.testBit u) X.st.gains (TI_of (tv 27 rfl) iter_lst) rfl (by omega) fun cenv p m =>
    ⟨.t (.cons (i := 41) rfl rfl (.cons (i := 29) rfl rfl (.nil _))), (Le.set rfl).trans (.set rfl), TT_one (TB_boolop (TB.to (TB_and (TB_cmp (TE_idx (tv 5 rfl) (tv 10 rfl) (nm_at hnm hv.2)) (tv 41 rfl) (cmp_inl (ss := (bits p.1).map (nmA X.low)) (by rw [List.map_map]; exact .z _)) rfl) (TB_and (TB_cmp (TE_idx (tv 5 rfl) (tv 12 rfl) (nm_at hnm hu)) (tv 41 rfl) (cmp_ninl (ss := (bits p.1).map (nmA X.low)) (by rw [List.map_map]; exact .z _)) rfl) TB_and_nil))
      (by rw [has_blk hl hv.2 fun q hq => (bits_lt hq).1, has_blk hl hu fun q hq => (bits_lt hq).1, bits_has hv.2, bits_has hu, Bool.and_true]))), fun u0 => tv 29 rfl⟩))) fun q r => bi_sum (ns := (X.st.gains.filter fun p => p.1.testBit v && !p.1.testBit u).map (·.2)) (by rw [List.map_map]; exact .z _) q.o.room.handled q.I r)
    (TE_idx (TE_idx (TE.val (tv 7 rfl) hco) (tv 10 rfl) i1) (tv 12 rfl) i2) cmp_gt rfl) (decide_eq_false (by rw [dual_filter]; exact Int.not_lt.mpr hd))) TS_nil) TS_nil
theorem lw_26 (Q : Pr C) (hl : X.low < 28) (hnm : X.nm = namD X.low) (hco : X.co = costD ds) (hd : ∀ u < 6, ∀ v < 6, v ≠ 0 → u ≠ v → dual X.st.gains u v ≤ cI ds v u) (hgl : X.st.gains.length ≤ 320)
    (h : TR (.fn C A 5 fd17 env) (X.e ds) (execs (lwB 27) env) σ d σ') : TR (.fn C A 5 fd17 env) (X.e ds) (execs (lwB 26) env) σ d σ' := by
  refine TR_cons (TS_for (TI_range2 (a := 1) (n := 5) Q.G.range (by kernel_rfl) rfl (a2 TE_int TE_int) (by decide)) (Run.scan0 (R := fun u0 => X.e ds) (S := fun u0 => σ) (List.range 5) rfl fun done i todo e => ?_)) h
  obtain ⟨u1, hi⟩ := range_split e
  have hv : 1 ≤ 1 + i ∧ 1 + i < 6 := by omega
  refine ⟨_, _, .v (i := 10) rfl rfl, .inl rfl, TS_cons (TS_for (TI_of (TP.rest made_L (TP_lf [12] (fun u : Nat => .int (u : Nat)) (fun u => .int (u : Nat)) (fun u => u != 1 + i) (List.range 6) (TI_range1 (n := 6) Q.G.range (by kernel_rfl) rfl (a1 TE_int) (by decide)) rfl (by decide) fun cenv u m => ⟨.v (i := 12) rfl rfl, .set rfl, TT_one (TB.to (TB_cmp (tv 12 rfl) (tv 10 rfl) cmp_nei rfl) (congrArg not (Bool.eq_iff_iff.mpr (by rw [beq_iff_eq, beq_iff_eq]; omega)))), fun u0 => tv 12 rfl⟩)) iter_lst)
    (Run.scan0 (R := fun u0 => (X.e ds).set 10 (some (.int ((1 : Nat) + (i : Nat) : Int)))) (S := fun u0 => σ) ((List.range 6).filter fun u => u != 1 + i) rfl fun done' u todo' e' => ?_)) (TS_nilf [10])⟩
  obtain ⟨hu, hne⟩ := callers_mem.mp (show u ∈ callers (1 + i) by unfold callers; rw [e']; exact List.mem_append_right _ (.head _))
  exact ⟨_, _, .v (i := 12) rfl rfl, .inl rfl, TS.fgt [12] (fe_go Q hl hnm hco hv hu (hd u hu (1 + i) hv.2 (by omega) hne) hgl)⟩
end
end Mine
end
section
open PySem PySem.W PyProof.Rows
namespace Mine
open E2
section
variable {C : Cx} {A : Around} {env : Env} {X : Lz} {x : Lx} {σ : St} {ln : Nat} {ds pre tx : List Nat}
theorem lw_27 (Q : Pr C) (hx : x.ct = Q.lx) (hL : X.L = x.L) (htx : X.tx = .str (mkS tx)) (hall : (X.st.gains.map (·.2)).sum = V (cI ds) 64 63) (XX : LX x ln pre [] σ) (hn : x.Nd) (hpre : ∀ c ∈ pre, isWs c = true) (hln : ln + nls pre = 1 + nls tx) :
    ∃ σ', Fm [x.L, x.IT] σ σ' ∧ ∀ {A : Around} {env : Env}, TR (.fn C A 5 fd17 env) (X.e ds) (execs (lwB 27) env) σ (.bool true) σ' := by
  obtain ⟨σ', h1, h2, h3⟩ := XX.fin Q hx hn hpre
  refine ⟨σ', h3, fun {A env} => TR_stop (TR_ret (TE_and_t (TE.val (TE_cmp (call Q.F4 (count_fn Q.G Q.F4 (X.T X.st.gains)) (a1 (TE_idx (tv 25 rfl) TE_int (idx_tup (j := 4) rfl (by decide))))) (TE_bin TE_int (best63 hall) (bin_mul (.inl (by decide)))) cmp_eqi rfl) (congrArg D.bool (beq_iff_eq.mpr (sumT_sum X.F X.low X.st.gains))))
    (TE_and_t (TE.val (TE_cmp (TE_mcall h1 (Nat.le_of_ble_eq_true rfl) (hx ▸ Q.X.gf) Q.X.gt.isFn rfl (TE.val (tv 14 rfl) (congrArg D.loc hL)) XX.l Lx.no_get an) TE_str cmp_eqs rfl) (congrArg D.bool BEq.rfl))
    (TE_and1 (TE.val (TE_cmp (TE_attr (d := .int ((ln + nls pre : Nat) : Int)) (hx ▸ Q.X.ln) (TE.val (tv 14 rfl) (congrArg D.loc hL)) h2.l (by kernel_rfl)) (TE_bin TE_int (TE_count (y := ⟨#[10]⟩) (TE.val (tv 13 rfl) htx) (a1 TE_str)) bin_add) cmp_eqi rfl) (congrArg D.bool (beq_iff_eq.mpr (by rw [count_nl]; omega))))))))⟩
end
end Mine
end
section
open PySem PySem.W PyProof.Rows
namespace Mine
open E2
theorem line_mem {ds : List Nat} {i : Nat} : i ∈ lineV ds ↔ i < 6 ∧ i ≠ 0 := by
  unfold lineV
  split
  · exact ⟨(by decide : ∀ j ∈ [1, 2, 3, 4, 5], j < 6 ∧ j ≠ 0) i, fun ⟨h, k⟩ => (by decide : ∀ j < 6, j ≠ 0 → j ∈ [1, 2, 3, 4, 5]) i h k⟩
  · exact ⟨(by decide : ∀ j ∈ [5, 4, 3, 2, 1], j < 6 ∧ j ≠ 0) i, fun ⟨h, k⟩ => (by decide : ∀ j < 6, j ≠ 0 → j ∈ [5, 4, 3, 2, 1]) i h k⟩
theorem line_inv (ds : List Nat) (pr : Nat → Int) : E2.Inv (cI ds) pr (s0 (cI ds)) ((lineV ds).map (2 ^ ·)) := by
  refine inv0 (fun v u => Int.natCast_nonneg _) ?_ (fun m => ?_) ?_
  · unfold lineV; split <;> decide
  · rw [List.mem_map]
    exact ⟨fun ⟨i, h, e⟩ => ⟨i, (line_mem.mp h).1, (line_mem.mp h).2, e⟩, fun ⟨i, h, k, e⟩ => ⟨i, line_mem.mpr ⟨h, k⟩, e⟩⟩
  · unfold lineV; split <;> rfl
theorem line_D {low : Nat} {ds : List Nat} : nmL low (lineV ds) = tkD low ((lineV ds).map (2 ^ ·)) := by
  unfold nmL tkD
  rw [List.map_map]
  exact List.map_congr_left fun i m => congrArg D.str (tok_one low i (line_mem.mp m).1).symm
theorem kp0 (c : Nat → Nat → Int) : KP (s0 c) where
  k :=
    { tab := fun p hp => by
        obtain ⟨v, hv, rfl⟩ := List.mem_map.mp hp
        have hv := List.mem_range'_1.mp hv
        exact ⟨pow_lt (by omega), Nat.ne_of_gt (Nat.two_pow_pos v)⟩
      lead := fun u0 h => nomatch h
      own := fun i hi => ⟨pow_lt hi, Nat.ne_of_gt (Nat.two_pow_pos i)⟩ }
  l6 := fun u0 h => nomatch h
  tl := Nat.le_refl _
theorem tab0 (low : Nat) (ds : List Nat) : ([1, 2, 3, 4, 5].map fun v => (nmA low v, D.ds (intD (rowL low ds v)))) = tabD low (s0 (cI ds)).tab := by
  show _ = ((List.range' 1 5).map fun v => (2 ^ v, cI ds v)).map _
  rw [List.map_map]
  refine List.map_congr_left (l := [1, 2, 3, 4, 5]) fun v hv => ?_
  have hv : 1 ≤ v ∧ v < 6 := (by decide : ∀ j ∈ [1, 2, 3, 4, 5], 1 ≤ j ∧ j < 6) v hv
  show _ = (tokA low (2 ^ v), D.ds (intD (rowsD low (2 ^ v) (cI ds v))))
  rw [tok_one low v hv.2]
  refine congrArg (fun l => (nmA low v, D.ds (intD l))) ?_
  unfold rowL costL rowsD
  rw [show outs (2 ^ v) = callers v from List.filter_congr fun i hi => ?_]
  · rfl
  · rw [Nat.testBit_two_pow]
    by_cases e : v = i
    · rw [decide_eq_true e, e, bne_self_eq_false]; rfl
    · rw [decide_eq_false e, bne_iff_ne.mpr (Ne.symm e)]; rfl
theorem turn_ok (ds : List Nat) : turnV ds = 1 ∨ turnV ds = -1 := by
  unfold turnV
  rcases Nat.mod_two_eq_zero_or_one (ds.getD 26 0 / 2) with h | h <;> rw [h]
  · exact .inl rfl
  · exact .inr rfl
theorem cI_le {ds : List Nat} (hB : ∀ x ∈ ds, x < 60) (v u : Nat) : cI ds v u ≤ 1000 := by
  have := cN_lt hB v u
  unfold cI; omega
theorem su_of {X : Lz} {ds : List Nat} (hB : ∀ x ∈ ds, x < 60) (hnm : X.nm = namD X.low) (hl : X.low < 28) (ht : X.t = 1 ∨ X.t = -1) (J : E2.Inv (cI ds) (prT X.t X.low) X.st []) (K : KP X.st) : ∀ p ∈ X.st.gains, ∃ u g, Su X p.1 u p.2 g := fun p hp => by
  obtain ⟨u, hu, hu6, hub, hS, hS0, g, hg, hgu, u1, hmin⟩ := J.lead_of hp
  exact ⟨u, g, hnm, hl, ht, hS, hS0, gain_le J (cI_le hB) hp, hu, hu6, hub, hg, hgu, hmin, K.k.tab, K.k.lead⟩
theorem T_ok {X : Lz} {ds : List Nat} (hl : X.low < 28) (J : E2.Inv (cI ds) (prT X.t X.low) X.st []) : ∀ q ∈ X.T X.st.gains, PyData.strOk q.1 = true :=
  sumT_all (P := fun x => PyData.strOk x = true) X.F X.low X.st.gains fun p hp => ⟨tok_ok hl, by
    obtain ⟨u, hu, hu6, u1⟩ := J.lead_of hp
    unfold Lz.F
    rw [hu]
    exact nmA_ok hl hu6⟩
end Mine
end
section
open PySem PySem.W PyProof.Rows
namespace Mine
open E2
noncomputable def stL (p pL : Addr) (ct : Addr) (tx : List Nat) : St := [.tab p lnS, .tab pL [], .dead, .dead, .dead, .dead, .dead, .dead] ++ lexT ct 8 tx ++ [.ds []]
theorem stL_lx (p pL ct : Addr) (tx : List Nat) : LX (lexX ct 8) 1 tx [] (stL p pL ct tx) := ⟨rfl, rfl, rfl, rfl⟩
structure Fin (C : Cx) (σ : St) (p pL : Addr) (σ' : St) (X : Rho) (i : Nat) : Prop where
  go : ∀ A env, (∃ c, env.code = .ref c ∧ CodeHd C.h0 c pL) → TR (.fn C A 5 fd17 env) X (execs (lwB i) env) σ (.bool true) σ'
  t0 : σ'[0]? = some (.tab p lnS)
  t1 : σ'[1]? = some (.tab pL lnL)
section
variable {C : Cx} {pL p : Addr} {low : Nat} {ds : List Nat} {X : Lw} {σ : St} {n6 : Nat} {W : List (List Nat)} {ln n : Nat} {pre tx : List Nat}
theorem cell7 {ct : Addr} : ∀ k ∈ (lexX ct 8).cells, k < 12 := (by decide : ∀ k ∈ [10, 8, 11, 9], k < 12)
theorem low_map {k n : Nat} (h : k < n) (l : List Nat) : k ∉ l.map (n + ·) := fun m => by
  obtain ⟨i, u1, e⟩ := List.mem_map.mp m
  exact Nat.not_le_of_lt h (e ▸ Nat.le_add_right n i)
theorem low_cons {k a n : Nat} (h1 : k < a) (h : k < n) (l : List Nat) : k ∉ a :: l.map (n + ·) := fun m => (List.mem_cons.mp m).elim (Nat.ne_of_lt h1) (low_map h l)
theorem off_map {n j : Nat} {l : List Nat} (h : j ∉ l) : n + j ∉ l.map (n + ·) := fun m => by
  obtain ⟨i, hi, e⟩ := List.mem_map.mp m
  exact h (Nat.add_left_cancel e ▸ hi)
theorem nodup_add (n : Nat) {l : List Nat} (h : l.Nodup) : (l.map (n + ·)).Nodup := List.Pairwise.map _ (fun a b (h : a ≠ b) e => h (Nat.add_left_cancel e)) h
theorem nodup_cons {a n : Nat} (h : a < n) {l : List Nat} (hl : l.Nodup) : (a :: l.map (n + ·)).Nodup := List.nodup_cons.mpr ⟨low_map h l, nodup_add n hl⟩
theorem fin_Fm (X : Lz) {τ : St} {n : Nat} (h : τ.length = n) : Fm [] τ (X.fin τ n ++ [.dead]) :=
  (((Fm.app [] τ _).cut (Fm.set (S := [n]) _ _ (.inl (.head _))) fun m hm => .inr (List.mem_singleton.mp hm ▸ Nat.le_of_eq h)).cut (Fm.set (S := [n + 1]) _ _ (.inl (.head _))) fun m hm => .inr (by rw [List.mem_singleton.mp hm]; omega)).trans (Fm.app _ _ _)
theorem law_c (Q : Pr C) (hl0 : LamAt C 0 lam0) (hb : C.h0.BuiltinsAt C.mg pL) (hl : low < 28) (hB : ∀ x ∈ ds, x < 60) (hd : ds.length = 28) (hdr : X.dr = .lst (natD ds)) (hnm : X.nm = namD low) (hco : X.co = costD ds) (hfl : X.fl = .ds (flagsD low)) (htx : X.tx = .str (mkS tx)) (hXL : X.L = 10) (hXt : X.tb = 12)
    (hn : n = σ.length) (h7 : 12 < n) (XX : LX (lexX Q.lx 8) ln (pre ++ (spell (sgnL.getD 0 []) n6 ++ [])) [] σ) (hpre : ∀ c ∈ pre, isWs c = true) (hln : ln + nls (pre ++ (spell (sgnL.getD 0 []) n6 ++ [])) = 1 + nls tx) (ht : σ[12]? = some (.ds (tabD low (s0 (cI ds)).tab))) (h0 : σ[0]? = some (.tab p lnS)) (h1 : σ[1]? = some (.tab pL [])) :
    ∃ σ', Fin C σ p pL σ' (X.r none none none) 15 := by
  have e : (σ ++ [AO.ins Q.tc (tcF (ordD 2 (turnV ds))), .ds (ownD low fun i => 2 ^ i), .ds [], .lst []]).length = n + 4 := by rw [List.length_append, hn]; rfl
  generalize hσ : σ ++ [AO.ins Q.tc (tcF (ordD 2 (turnV ds))), .ds (ownD low fun i => 2 ^ i), .ds [], .lst []] ++ [.lst (nmL low (lineV ds))] = τ
  have hτ : τ = σ ++ [AO.ins Q.tc (tcF (ordD 2 (turnV ds))), .ds (ownD low fun i => 2 ^ i), .ds [], .lst [], .lst (nmL low (lineV ds))] := by rw [← hσ, List.append_assoc]; rfl
  have at_ : ∀ i {o}, [AO.ins Q.tc (tcF (ordD 2 (turnV ds))), .ds (ownD low fun i => 2 ^ i), .ds [], .lst [], .lst (nmL low (lineV ds))][i]? = some o → τ[n + i]? = some o := fun i {o} h => by rw [hτ, hn]; exact at_tail i h
  have F : Fm [] σ τ := by rw [hτ]; exact Fm.app _ _ _
  have g : ∀ {k o}, k ≠ 1 → τ[k]? = some o → (τ.set 1 (.tab pL lnL))[k]? = some o := fun hk h => (List.getElem?_set_ne (Ne.symm hk)).trans h
  have x1 : τ[1]? = some (.tab pL []) := F.at h1 List.not_mem_nil
  have CC : CL low Q.tc 12 (n + 1) (n + 2) (n + 3) n (turnV ds) (s0 (cI ds)) (τ.set 1 (.tab pL lnL)) :=
    ⟨g (by decide) (F.at ht List.not_mem_nil), g (by omega) (at_ 1 rfl), g (by omega) (at_ 2 rfl), g (by omega) (at_ 3 rfl), g (by omega) (at_ 0 rfl)⟩
  have YY : LX (lexX Q.lx 8) ln (pre ++ (spell (sgnL.getD 0 []) n6 ++ [])) [] (τ.set 1 (.tab pL lnL)) :=
    ⟨g (show 10 ≠ 1 by decide) (F.at XX.l List.not_mem_nil), g (show 8 ≠ 1 by decide) (F.at XX.i List.not_mem_nil), g (show 11 ≠ 1 by decide) (F.at XX.p List.not_mem_nil), g (show 9 ≠ 1 by decide) (F.at XX.f List.not_mem_nil)⟩
  have nin : ∀ {k : Nat}, k < 12 → k ∉ [12, n + 1, n + 2, n + 3, n] := fun {k} hk => low_cons hk (Nat.lt_trans hk h7) [1, 2, 3, 0]
  have hch : Ch (lexX Q.lx 8) ⟨Q.tc, 12, n + 1, n + 2, n + 3, n⟩ (n + 4) := {
    nx := lexX_nd Q.lx 8
    nz := nodup_cons h7 (l := [1, 2, 3, 0]) (by decide)
    xz := fun k m => nin (cell7 k m)
    lx := fun m => by have := cell7 _ m; omega
    lz := fun m => (List.mem_cons.mp m).elim (fun e => absurd e (show n + 4 ≠ 12 by omega)) (off_map (n := n) (j := 4) (l := [1, 2, 3, 0]) (by decide)) }
  obtain ⟨s, σ', w1, w2, w3, w4, w5, w6, w7⟩ := run_ok (z := ⟨Q.tc, 12, n + 1, n + 2, n + 3, n⟩) (low := low) (t := turnV ds) (c := cI ds) Q hl0 rfl rfl hl (turn_ok ds) hch (line_inv ds _) (kp0 _) CC (g (by omega) ((at_ 4 rfl).trans (by rw [line_D]))) YY hpre (by decide) (by decide)
  generalize hZ : (⟨X, low, turnV ds, .loc n, .loc (n + 1), s⟩ : Lz) = Z
  have hgl : Z.st.gains.length ≤ 320 := by have := w2.sz2; rw [← hZ]; show s.gains.length ≤ _; simp only [List.length_nil] at this; omega
  generalize hm : σ'.length = m
  generalize hσ1 : ((((σ'.set X.tb AO.dead).set (n + 2) .dead).set (n + 3) .dead).set (n + 4) .dead) = σ1
  have l1 : σ1.length = m := by rw [← hσ1]; simp only [List.length_set]; exact hm
  have F2 : Fm [12, n + 2, n + 3, n + 4] σ' σ1 := by
    rw [← hσ1, hXt]
    exact (((Fm.set _ _ (.inl (.head _))).trans (Fm.set _ _ (.inl (.tail _ (.head _))))).trans (Fm.set _ _ (.inl (.tail _ (.tail _ (.head _)))))).trans (Fm.set _ _ (.inl (.tail _ (.tail _ (.tail _ (.head _))))))
  have F3 := F2.trans ((fin_Fm Z l1).mono fun u0 h => nomatch h)
  have n4 : ∀ {k : Nat}, k < 12 → k ∉ [12, n + 2, n + 3, n + 4] := fun {k} hk => low_cons hk (Nat.lt_trans hk h7) [2, 3, 4]
  obtain ⟨σ2, F4, v⟩ := lw_27 (X := Z) (ds := ds) (tx := tx) Q rfl (by rw [← hZ]; exact hXL) (by rw [← hZ]; exact htx) (by rw [← hZ]; exact w2.all) (w6.frame F3 fun k hk => n4 (cell7 k hk)) (lexX_nd Q.lx 8) (fun c hc => left_ws _ c (List.append_nil _ ▸ hc)) (by rw [← hln, spell_eq]; simp only [nls_app]; omega)
  have far : ∀ {k : Nat} {o : AO}, k < 12 → k ∉ [10, 8, 11] → k ∉ [10, 8] → (τ.set 1 (.tab pL lnL))[k]? = some o → σ2[k]? = some o := fun {k o} hk hr hs h => F4.at (F3.at (w7.at h fun m => (List.mem_append.mp (show k ∈ (12 :: [1, 2, 3, 4].map (n + ·)) ++ [10, 8, 11] from m)).elim (low_cons hk (Nat.lt_trans hk h7) _) hr) (n4 hk)) hs
  refine ⟨σ2, fun A env hP => ?_, far (by decide) (by decide) (by decide) (g (by decide) (F.at h0 List.not_mem_nil)), far (by decide) (by decide) (by decide) (List.getElem?_set_self (at_lt x1))⟩
  refine lw_15 Q hl hdr hd hnm ?_
  rw [← hn]
  refine lw_19 hdr hd hnm ?_
  rw [e, hσ]
  refine lw_20 (z := ⟨Q.tc, 12, n + 1, n + 2, n + 3, n⟩) (tl := 1) Q hl0 hP hb hfl hXt x1 (by rw [hXL]; exact w1) ?_
  have c4 := w4
  have := lw_21 (X := Z) (A := A) (env := env) (σ := σ') (σ' := σ2) (d := .bool true) (li := n + 4) (ld := n + 2) (ga := n + 3) (n := m) (by rw [← hZ]; show σ'[X.tb]? = _; rw [hXt]; exact w4.c1) (by rw [← hZ]; exact w4.c3) (by rw [← hZ]; exact w4.c4) (by rw [← hZ]; exact w5) (by rw [← hZ]; show [X.tb, _, _, _].Nodup; rw [hXt]; exact nodup_cons h7 (l := [2, 3, 4]) (by decide)) hm
    (by
      rw [show Z.tb = X.tb by rw [← hZ], hσ1]
      have hnm' : Z.nm = namD Z.low := by rw [← hZ]; exact hnm
      have hco' : Z.co = costD ds := by rw [← hZ]; exact hco
      have J : E2.Inv (cI ds) (prT Z.t Z.low) Z.st [] := by rw [← hZ]; exact w2
      have K : KP Z.st := by rw [← hZ]; exact w3
      have hl' : Z.low < 28 := by rw [← hZ]; exact hl
      exact lw_22 Q (su_of hB hnm' hl' (by rw [← hZ]; exact turn_ok ds) J K) hgl l1 (lw_23 Q hco' l1 (lw_25 Q J.all hgl (fun p hp => gain_le J (cI_le hB) hp) (T_ok hl' J) (lw_26 Q hl' hnm' hco' (fun u hu v hv hv0 huv => J.ia.r0 u hu v hv hv0 huv) hgl v))))
  rw [← hZ] at this
  exact this
end
end Mine
end
section
open PySem PySem.W PyProof.Rows
namespace Mine
open E2
theorem law_run {C : Cx} {pL : Addr} (Q : Pr C) (hl0 : LamAt C 0 lam0) (hl1 : LamAt C 1 lam1) (F0 : Meth C Q.lx "__init__" (pM 10 0).params (pM 10 0).scope (pM 10 0).body Q.l0) (hb : C.h0.BuiltinsAt C.mg pL) (L : List Int) (hL : L.length ≤ 63) :
    ∃ σ', Fin C [.tab Q.p12 [], .tab pL []] Q.p12 pL σ' (lwR [some (.lst (L.map .int))]) 0 := by
  have hn := numL_len L
  generalize hns : numL L = ns at hn
  have hB := draw_lt ns
  have hd : (drawL ns).length = 28 := by rw [draw_len, hn]
  generalize hds : drawL ns = ds at hB hd
  have hl : ds.getD 25 0 % 28 < 28 := Nat.mod_lt _ (by decide)
  generalize hlow : ds.getD 25 0 % 28 = low at hl
  have hPW : PWs ds [1, 2, 3, 4, 5] (wrdF ds (ns.getD 6 0) (List.range 5)) := wrdF_PW ds (ns.getD 6 0)
  obtain ⟨hW, hw⟩ := hPW.ok hB (by decide)
  generalize hWd : wrdF ds (ns.getD 6 0) (List.range 5) = W at hPW hW hw
  have hw0 : ∀ x ∈ W ++ [sgnL.getD 0 []], x.length ≤ 20 := fun x m => by
    rcases List.mem_append.mp m with m | m
    · exact (hw x m).1
    · cases List.mem_singleton.mp m; decide
  have htl := txt_len (ns.getD 6 0) (W ++ [sgnL.getD 0 []]) 0 hw0
  rw [List.length_append, hW, ← txt_zip] at htl
  generalize htx : txtL (W ++ [sgnL.getD 0 []]) (ns.getD 6 0) = tx
  have htx' : tx = [] ++ txt (ns.getD 6 0) (W ++ [sgnL.getD 0 []]) 0 := by rw [← htx, List.nil_append, ← txt_zip]; rfl
  rw [show ((W ++ [sgnL.getD 0 []]).zipIdx 0).map _ = (W ++ [sgnL.getD 0 []]).zipIdx.map (fun x => spell x.1 (ns.getD 6 0 / (x.2 + 1))) from rfl, show ((W ++ [sgnL.getD 0 []]).zipIdx.map fun x => spell x.1 (ns.getD 6 0 / (x.2 + 1))).flatten = tx from htx] at htl
  have XL := stL_lx Q.p12 pL Q.lx tx
  rw [htx'] at XL
  rw [← htx'] at XL
  generalize hX : (⟨.lst (L.map .int), .lst (natD ns), .lst (natD ds), .lst (knownL.map .str), .int (low : Nat), namD low, .ds (flagsD low), costD ds, .lst (wrdD W), .str (mkS tx), 10, 12⟩ : Lw) = X
  obtain ⟨σd, pre, ln, z1, z2, z4, z5, z6, z7⟩ := rd2 (n6 := ns.getD 6 0) (ds := ds) (low := low) (X := X) (x := lexX Q.lx 8) (tot := 1 + nls tx) Q rfl (lexX_nd Q.lx 8) (by rw [← hX]; rfl) (by rw [← hX]) hl hB (by rw [← hX]; exact (by decide : 12 ∉ [10, 8, 11, 9])) [1, 2, 3, 4, 5] 0 [] W [] 1 (stL Q.p12 pL Q.lx tx) ⟨by decide, by decide, fun u0 u0 => List.not_mem_nil, by decide, hPW, (fun u0 h => nomatch h), by rw [← htx']; exact XL, by rw [← hX]; rfl, by rw [← htx']⟩
  have hXt : X.tb = 12 := by rw [← hX]
  rw [hXt] at z6 z7
  have hlen : 12 < σd.length := z7.1
  obtain ⟨σ', f, t0, t1⟩ := law_c (X := X) (n6 := ns.getD 6 0 / (10 + 1)) (tx := tx) (n := σd.length) (p := Q.p12) Q hl0 hb hl hB hd (by rw [← hX]) (by rw [← hX]) (by rw [← hX]) (by rw [← hX]) (by rw [← hX]) (by rw [← hX]) hXt rfl hlen z4 z2 z5 (z6.trans (congrArg (fun l => some (AO.ds l)) (tab0 low ds))) (z7.at rfl (by decide : 0 ∉ [10, 8, 12])) (z7.at rfl (by decide : 1 ∉ [10, 8, 12]))
  refine ⟨σ', fun A env hP => ?_, t0, t1⟩
  have f := f A env hP
  have q1 := fun {A : Around} {env : Env} {p : Pos} => z1 (A := A) (env := env) (p := p)
  rw [← hX] at f q1
  refine lw_0 Q hL ?_
  rw [hns]
  refine lw_1 Q hn ?_
  rw [hds]
  refine lw_2 ?_ hd
  rw [hlow]
  refine lw_4 Q hl (lw_5 Q hl (lw_6 Q hd (lw_9 Q hB hn ?_)))
  refine lw_10 (W := W) Q hn (by rw [hW]; decide) (fun x m => Nat.le_trans (hw0 x m) (by decide)) (by rw [← hWd]; rfl) ?_
  rw [htx]
  refine lw_11 (t := 0) Q hl1 F0 (Nat.le_trans htl (by decide)) rfl ?_
  show TR _ (lwR [some (.lst (L.map .int)), some (.lst (natD ns)), some (.lst (natD ds)), some (.lst (knownL.map .str)), some (.int (low : Nat)), some (namD low), some (.ds (flagsD low)), some (costD ds), some sgnD, some (.lst (wrdD W)), none, none, none, some (.str (mkS tx)), some (.loc 10)]) _ ([.tab Q.p12 lnS, .tab pL [], .dead, .dead, .dead, .dead, .dead, .dead] ++ lexT Q.lx 8 tx) _ _
  refine lw_12 (TR_cons (TS_for (TI_range1 (n := 5) Q.G.range (by kernel_rfl) rfl (a1 TE_int) (by decide)) q1) ?_)
  exact lw_14 (ds := ds) (low := low) Q hl rfl rfl z6 f
end Mine
end
section
open PySem PySem.W PyProof.Rows
namespace Mine
noncomputable def adrs : List Addr := (List.range 160).filter fun a => !(a == 122 || a == 151)
noncomputable def fragH (h : Heap) : Frag := adrs.filterMap fun a => (h.get? a).map fun o => (a, o)
theorem frag_in {h : Heap} {a : Addr} {o : Obj} (e : (fragH h).lookup a = some o) : (a ≠ 122 ∧ a ≠ 151) ∧ h.get? a = some o := by
  obtain ⟨b, hb, e⟩ := List.mem_filterMap.mp (mem_of_lookupK e)
  obtain ⟨o', e1, e2⟩ := Option.map_eq_some_iff.mp e
  cases e2
  have hf := (List.mem_filter.mp hb).2
  exact ⟨⟨(fun q => by rw [q] at hf; cases hf), (fun q => by rw [q] at hf; cases hf)⟩, e1⟩
noncomputable def isNoneV : Value → Bool
  | .none => true
  | _ => false
noncomputable def refOf : Value → Option Addr
  | .ref a => some a
  | _ => none
noncomputable def intOf : Value → Option Int
  | .int i _ => some i
  | _ => none
noncomputable def strOf : Value → Option Str
  | .str i _ => some i
  | _ => none
noncomputable def fdOf : Data → Option FuncData
  | .func fd => some fd
  | _ => none
noncomputable def esOf : Data → Option (Array DictEntry)
  | .dict es _ => some es
  | _ => none
noncomputable def fdK (K : Frag) (fa : Addr) : Option FuncData := (K.lookup fa).bind fun o => fdOf o.data
noncomputable def fdB (K : Frag) (fd : FuncData) : List Bool := [Nat.beq fd.globals mainGlobals, Nat.beq fd.builtins builtinsNs, fd.closure.isEmpty, isNoneV fd.defaults, (refOf fd.code).isSome, codeIn K fd.code fd.qualname]
noncomputable def fnOkB (K : Frag) (fa : Addr) : Bool := (fdK K fa).any fun fd => (fdB K fd).all id
noncomputable def fnV (K : Frag) (fa : Addr) : Option (FuncBody × Arguments × Scope) := (fdK K fa).map fun fd => (fd.body, fd.params, fd.scope)
noncomputable def codeOf (K : Frag) (fa : Addr) : Option Addr := (fdK K fa).bind fun fd => refOf fd.code
noncomputable def bltB (K : Frag) (p : Str × Value) : Bool := [nsIn K mainGlobals p.1 == some none, bootBuiltins p.1 == some p.2, !(p.1 == "__name__")].all id
noncomputable def glbB (K : Frag) (p : Str × Addr) : Bool := nsIn K mainGlobals p.1 == some (some (.ref p.2))
noncomputable def newB (K : Frag) (c fa : Addr) : Bool := [keepIn K (.ref c), makesIn K c, findIn K (.ref c) "__init__" == some (some (.ref fa)), typeIn K (.ref fa) == some (.type "function")].all id
noncomputable def mthB (K : Frag) (c : Addr) (a : Str) (fa : Addr) : Bool :=
  [findIn K (.ref c) "__getattribute__" == some (some (.builtin "object.__getattribute__")), findIn K (.ref c) "__getattr__" == some none, findIn K (.ref c) a == some (some (.ref fa)), typeIn K (.ref fa) == some (.type "function")].all id
noncomputable def bndB (K : Frag) (c : Addr) (a : Str) (f : Addr) : Bool :=
  [mthB K c a f, hasDictIn K c, specialIn K (.ref f) "__get__" == some (some (.builtin "function.__get__")), takesIn K (.ref f) == some false, !(copiedNames.contains a)].all id
noncomputable def insB (K : Frag) (c : Addr) (a : Str) : Bool :=
  [findIn K (.ref c) "__getattribute__" == some (some (.builtin "object.__getattribute__")), hasDictIn K c, (match findIn K (.ref c) a with | some r => noGet K r | none => false), findIn K (.ref c) "__setattr__" == some (some (.builtin "object.__setattr__")), plainOver K c, takerIn K c a == some none].all id
noncomputable def entB (e : DictEntry) (p : Int × Str) : Bool := intOf e.key == some p.1 && (e.hash == hashInt p.1 && strOf e.val == some p.2)
noncomputable def glE : List DictEntry → List (Int × Str) → Bool
  | [], l => l.isEmpty
  | e :: es, l => match l with
    | [] => false
    | p :: l => entB e p && glE es l
noncomputable def glB (K : Frag) (a : Addr) (l : List (Int × Str)) : Bool := ((K.lookup a).bind fun o => esOf o.data).any fun es => glE es.toList l
noncomputable def bis : List (Str × Value) := [("range", .type "range"), ("enumerate", .type "enumerate"), ("list", .type "list"), ("tuple", .type "tuple"), ("int", .type "int"), ("iter", .builtin "iter"), ("len", .builtin "len"), ("sum", .builtin "sum"), ("min", .builtin "min"), ("sorted", .builtin "sorted"), ("next", .builtin "next"), ("ord", .builtin "ord"), ("chr", .builtin "chr"), ("hex", .builtin "hex"), ("isinstance", .builtin "isinstance")]
noncomputable def glbs : List (Str × Addr) := [("add_func_stats", 49), ("add_callers", 56), ("count_calls", 63), ("COMPILER_FLAG_NAMES", 64), ("pretty_flags", 71), ("_parse_varint", 78), ("_law_stream", 127), ("_law_spelled", 132), ("_law_octets", 137), ("_law_run", 144), ("_law_take", 149), ("law", 154), ("TupleComp", 38), ("_netrclex", 116)]
noncomputable def fnas : List Addr := [49, 56, 63, 71, 78, 127, 132, 137, 144, 149, 154, 28, 35, 92, 99, 106, 113]
noncomputable def fo (t : FnT) : Option (FuncBody × Arguments × Scope) := some (.stmts t.body, t.params, t.scope)
noncomputable def fnsL : List (Option (FuncBody × Arguments × Scope)) := [fo (pT 2), fo (pT 3), fo (pT 4), fo (pT 7), fo (pT 8), fo (pT 12), fo (pT 13), fo (pT 14), fo (pT 15), fo (pT 16), fo (pT 17), fo (pM 1 0), fo (pM 1 1), fo (pM 10 0), fo (pM 10 1), fo (pM 10 2), fo (pM 10 3)]
noncomputable def chkL (K : Frag) : List Bool :=
  [bis.all (bltB K), glbs.all (glbB K), fnas.all (fnOkB K), glB K 64 flagT, newB K 38 28, newB K 116 92, mthB K 38 "compare" 35, mthB K 116 "_read_char" 99, mthB K 116 "get_token" 106, mthB K 116 "push_token" 113, bndB K 116 "_read_char" 99,
   insB K 38 "comp_select_list", insB K 116 "lineno", insB K 116 "instream", insB K 116 "whitespace", insB K 116 "pushback", codeHdIn K 126 122, codeHdIn K 153 151, codeOf K 127 == some 126, codeOf K 154 == some 153]
structure Seen (h : Heap) : Prop where
  c : (chkL (fragH h)).all id = true
  t : [122, 151].map h.get? = [some (tabObj #[]), some (tabObj #[])]
  f : fnas.map (fnV (fragH h)) = fnsL
  d : ((fragH h).lookup 64).map (fun o => (o.cls, o.dict, o.slots)) = some (.type "dict", none, #[])
inductive Says (h : Heap) : Prop
  | mk (h1 : Heap) (S : Seen h1) (k : ∀ b o, h1.get? b = some o → h.get? b = some o)
noncomputable def hk : Hook where
  α := (Bool × List (Option Obj)) × List (Option (FuncBody × Arguments × Scope)) × Option (Value × Option Addr × Array (Option Value))
  obs s := (((chkL (fragH s.heap)).all id, [122, 151].map s.heap.get?), fnas.map (fnV (fragH s.heap)), ((fragH s.heap).lookup 64).map (fun o => (o.cls, o.dict, o.slots)))
  val _ := ((true, [some (tabObj #[]), some (tabObj #[])]), fnsL, some (.type "dict", none, #[]))
  says _ h := Says h
  of _ s e := ⟨s.heap, ⟨congrArg (·.1.1) e, congrArg (·.1.2) e, congrArg (·.2.1) e, congrArg (·.2.2) e⟩, fun u0 u0 e => e⟩
  keeps _ _ _ x k := let ⟨h1, S, k1⟩ := x; ⟨h1, S, fun b o e => k b o (k1 b o e)⟩
theorem all_get {α : Type} {l : List α} {p : α → Bool} (h : l.all p = true) (i : Nat) {x : α} (e : l[i]? = some x) : p x = true := List.all_eq_true.mp h x (List.mem_of_getElem? e)
end Mine
end
section
open PySem PySem.W PyProof.Rows
set_option maxHeartbeats 0
namespace Mine
noncomputable def q2 : Program := PySem.W.view PySem.Challenge.rw_xc0017_02.prog [1, 2, 3, 4, 6, 7, 8, 10, 12, 13, 14, 15, 16, 17]
theorem left2 : LeftO PySem.Challenge.rw_xc0017_02.row.toRowW.prog q2 [Str.ofString "COMPILER_FLAG_NAMES"] (fun s => xlAt q2 [] s && recOk (RowW.records PySem.Challenge.rw_xc0017_02.row.toRowW) s) (Hook.obs hk) (Hook.val hk) 2314 :=
  LeftO.of_split "special-get-raises" (fun w => by kernel_rfl)
end Mine
end
section
open PySem PySem.W PyProof.Rows
namespace Mine
noncomputable def tbs : List (Addr × Addr) := [(126, 122), (153, 151)]
structure HdOk (h1 h : Heap) (mg mb : Str → Option Value) : Prop where
  S : Seen h1
  k : ∀ b o, h1.get? b = some o → h.get? b = some o
  g : h.Ns mainGlobals mg
  b : h.Ns builtinsNs mb
  bt : ∀ x : Str, x ≠ "__name__" → mb x = bootBuiltins x
  lim : h.NoLimit
  bm : ∃ bm ob, mg "__builtins__" = some (.ref bm) ∧ bm ≠ builtinsNs ∧ h.get? bm = some ob ∧ ob.cls = .type "module" ∧ ob.dict = some builtinsNs ∧ ob.data = .plain
section
variable {h1 h : Heap} {mg mb : Str → Option Value} {prog : Program} {w : World}
theorem Seen.i (S : Seen h1) (i : Nat) {b : Bool} (e : (chkL (fragH h1))[i]? = some b) : b = true := all_get (p := id) S.c i e
theorem HdOk.X (H : HdOk h1 h mg mb) : (fragH h1).In h := fun a o e => H.k a o (frag_in e).2
theorem HdOk.T (H : HdOk h1 h mg mb) : TabsAt tbs h := fun q m => by
  have t := H.S.t
  have t0 : h1.get? 122 = some (tabObj #[]) := Option.some.inj (congrArg (·[0]?) t)
  have t1 : h1.get? 151 = some (tabObj #[]) := Option.some.inj (congrArg (·[1]?) t)
  rcases List.mem_cons.mp m with rfl | m
  · exact ⟨codeHd_of_K H.X (H.S.i 16 rfl), H.k _ _ t0⟩
  · cases List.mem_singleton.mp m
    exact ⟨codeHd_of_K H.X (H.S.i 17 rfl), H.k _ _ t1⟩
noncomputable def cx (prog : Program) (w : World) (H : HdOk h1 h mg mb) : Cx where
  prog := prog
  w := w
  h0 := ghostOf h tbs
  LT k i := k = 0 ∧ i = lam0 ∨ k = 1 ∧ i = lam1
  rc := 99
  mg := mg
  mb := mb
  glob := ghost_ns H.T H.g
  bltn := ghost_ns H.T H.b
  K := fragH h1
  inK a o e := ghost_ne (H.X a o e) fun m => by
    have := (frag_in e).1
    rcases List.mem_cons.mp m with q | q
    · exact this.1 q
    · exact this.2 (List.mem_singleton.mp q)
variable (H : HdOk h1 h mg mb)
theorem lam_0 : LamAt (cx prog w H) 0 lam0 := ⟨.inl ⟨rfl, rfl⟩, fun i e => e.elim (·.2) fun z => nomatch z.1⟩
theorem lam_1 : LamAt (cx prog w H) 1 lam1 := ⟨.inr ⟨rfl, rfl⟩, fun i e => e.elim (fun z => nomatch z.1) (·.2)⟩
theorem bi_at (i : Nat) {x : Str} {v : Value} (e : bis[i]? = some (x, v)) : Bi (cx prog w H) x v := by
  have := all_get (H.S.i 0 rfl) i e
  have a : nsIn (fragH h1) mainGlobals x = some none := eq_of_beq (all_get this 0 rfl)
  have b : bootBuiltins x = some v := eq_of_beq (all_get this 1 rfl)
  have c : (!(x == "__name__")) = true := all_get this 2 rfl
  exact ⟨mg_none_of H.X H.g a, (H.bt x fun q => by rw [q] at c; cases c).trans b⟩
theorem glb_at (i : Nat) {x : Str} {a : Addr} (e : glbs[i]? = some (x, a)) : Glb (cx prog w H) x (.ref a) := ⟨mg_of H.X H.g (eq_of_beq (all_get (H.S.i 1 rfl) i e))⟩
theorem fd_at {K : Frag} {fa : Addr} {fd : FuncData} (e : fdK K fa = some fd) : ∃ o, K.lookup fa = some o ∧ o.data = .func fd := by
  obtain ⟨o, a, b⟩ := Option.bind_eq_some_iff.mp e
  refine ⟨o, a, ?_⟩
  unfold fdOf at b
  split at b
  · rename_i x q; rw [q]; exact congrArg _ (Option.some.inj b)
  · cases b
theorem none_of {v : Value} (h : isNoneV v = true) : v = .none := by
  unfold isNoneV at h
  split at h
  · rfl
  · cases h
theorem ref_of {v : Value} {c : Addr} (h : refOf v = some c) : v = .ref c := by
  unfold refOf at h
  split at h
  · rw [Option.some.inj h]
  · cases h
theorem fn_at (i : Nat) {fa : Addr} {t : FnT} (e : fnas[i]? = some fa) (f : fnsL[i]? = some (fo t)) : ∃ c, FnAt (cx prog w H) fa t.params t.scope t.body c := by
  have a : fnOkB (fragH h1) fa = true := all_get (H.S.i 2 rfl) i e
  have b : fnV (fragH h1) fa = fo t := by
    have := (congrArg (fun l => l[i]?) H.S.f).trans f
    rw [List.getElem?_map, e] at this
    exact Option.some.inj this
  obtain ⟨fd, q, b⟩ := Option.map_eq_some_iff.mp b
  obtain ⟨fd', q', a⟩ := (Option.any_eq_true ..).mp a
  cases q.symm.trans q'
  obtain ⟨o, h1, h2⟩ := fd_at q
  obtain ⟨c, hc⟩ := Option.isSome_iff_exists.mp (all_get (p := id) a 4 rfl)
  have hc := ref_of hc
  exact ⟨c, o, fd, (cx prog w H).inK _ _ h1, h2, congrArg (·.1) b, congrArg (·.2.1) b, congrArg (·.2.2) b, Nat.eq_of_beq_eq_true (all_get (p := id) a 0 rfl), Nat.eq_of_beq_eq_true (all_get (p := id) a 1 rfl), List.isEmpty_iff.mp (all_get (p := id) a 2 rfl), none_of (all_get (p := id) a 3 rfl), hc, hc ▸ codeRec_of (cx prog w H).inK (all_get (p := id) a 5 rfl)⟩
theorem tab_fn {fa c P : Addr} {t : FnT} (e : codeOf (fragH h1) fa = some c) (m : (c, P) ∈ tbs) : FnTab (cx prog w H) t fa P := by
  have ht := (H.T _ m).2
  refine ⟨fun c' At => ?_, ?_⟩
  · obtain ⟨fd, q, e⟩ := Option.bind_eq_some_iff.mp e
    obtain ⟨o, k1, k2⟩ := fd_at q
    obtain ⟨o', fd', e1, e2, u1, u2, u3, u4, u5, u6, u7, e11, u8⟩ := At.at_
    cases ((cx prog w H).inK _ _ k1).symm.trans e1
    cases k2.symm.trans e2
    cases (ref_of e).symm.trans e11
    rcases List.mem_cons.mp m with q | q
    · cases q; exact (ghost_code H.T).1
    · cases List.mem_singleton.mp q; exact (ghost_code H.T).2.1
  · obtain ⟨bm, ob, e1, e2, e3, e4, e5, e6⟩ := H.bm
    refine ⟨bm, ob, e1, e2, (fun q => ?_), (fun q => ?_), ghost_get H.T e3 (fun q => by rw [q] at e4; cases e4), e4, e5, e6⟩
    · obtain ⟨o, es, ep, f1, f2, u1⟩ := H.g
      rw [q, f1] at e3; cases e3
      rw [f2] at e6; cases e6
    · rw [q, show h.get? P = some (tabObj #[]) from ht] at e3; cases e3; cases e4
end
end Mine
end
section
open PySem PySem.W PyProof.Rows
namespace Mine
section
variable {C : Cx} {c fa : Addr} {a : Str}
theorem new_ok (e : newB C.K c fa = true) : NewFacts C c fa := ⟨all_get (p := id) e 0 rfl, all_get (p := id) e 1 rfl, eq_of_beq (all_get (p := id) e 2 rfl), eq_of_beq (all_get (p := id) e 3 rfl)⟩
theorem mth_ok (e : mthB C.K c a fa = true) : MethFacts C c a fa := ⟨eq_of_beq (all_get (p := id) e 0 rfl), eq_of_beq (all_get (p := id) e 1 rfl), eq_of_beq (all_get (p := id) e 2 rfl), eq_of_beq (all_get (p := id) e 3 rfl)⟩
theorem bnd_ok (e : bndB C.K c a fa = true) : BoundFacts C c a fa :=
  have m : mthB C.K c a fa = true := all_get (p := id) e 0 rfl
  ⟨(mth_ok m).hga, (mth_ok m).hk, all_get (p := id) e 1 rfl, (mth_ok m).hf, (mth_ok m).ht, eq_of_beq (all_get (p := id) e 2 rfl), eq_of_beq (all_get (p := id) e 3 rfl), (Bool.not_eq_true' _).mp (all_get (p := id) e 4 rfl)⟩
theorem ins_ok (e : insB C.K c a = true) : InsFacts C c a := by
  have h : (match findIn C.K (.ref c) a with | some r => noGet C.K r | none => false) = true := all_get (p := id) e 2 rfl
  refine ⟨eq_of_beq (all_get (p := id) e 0 rfl), all_get (p := id) e 1 rfl, ?_, eq_of_beq (all_get (p := id) e 3 rfl), all_get (p := id) e 4 rfl, eq_of_beq (all_get (p := id) e 5 rfl)⟩
  cases q : findIn C.K (.ref c) a with
  | none => rw [q] at h; cases h
  | some r => rw [q] at h; exact ⟨r, rfl, h⟩
theorem ent_ok {e : DictEntry} {p : Int × Str} (h : entB e p = true) : (∃ t, e.key = .int p.1 t) ∧ e.hash = hashInt p.1 ∧ ∃ t, e.val = .str p.2 t := by
  obtain ⟨a, h⟩ := Bool.and_eq_true_iff.mp h
  obtain ⟨b, c⟩ := Bool.and_eq_true_iff.mp h
  have a := eq_of_beq a
  have c := eq_of_beq c
  refine ⟨?_, eq_of_beq b, ?_⟩
  · unfold intOf at a
    split at a
    · rename_i q; exact ⟨_, q.trans (by rw [Option.some.inj a])⟩
    · cases a
  · unfold strOf at c
    split at c
    · rename_i q; exact ⟨_, q.trans (by rw [Option.some.inj c])⟩
    · cases c
theorem glE_ok {w : W} : ∀ {es : List DictEntry} {l : List (Int × Str)}, glE es l = true →
    ∃ kvs : List (Int × Value), (∀ e ∈ es, ∃ k, (intKind C.prog C.w).is k e.key = true ∧ e.hash = (intKind C.prog C.w).hash k) ∧ Pairs (intKind C.prog C.w) es kvs ∧ kvs.map (·.1) = l.map (·.1) ∧ RepI C w (mapD .str l) kvs
  | [], l, h => by cases List.isEmpty_iff.mp h; exact ⟨[], (fun u0 m => nomatch m), .nil, rfl, rfl⟩
  | e :: es, l, h => by
    cases l with
    | nil => cases h
    | cons p l =>
      obtain ⟨h1, h2⟩ := Bool.and_eq_true_iff.mp h
      obtain ⟨⟨t, k1⟩, k2, u, k3⟩ := ent_ok h1
      obtain ⟨kvs, a1, a2, a3, a4⟩ := glE_ok (w := w) h2
      have hi : (intKind C.prog C.w).is p.1 e.key = true := k1 ▸ intKind_is ..
      refine ⟨(p.1, e.val) :: kvs, fun x m => ?_, .cons hi rfl a2, congrArg (p.1 :: ·) a3, ⟨_, kvs, ⟨u, k3⟩, a4⟩⟩
      rcases List.mem_cons.mp m with q | q
      · exact ⟨p.1, q ▸ hi, q ▸ k2⟩
      · exact a1 x q
theorem gl_ok {p : Addr} {l : List (Int × Str)} (e : glB C.K p l = true) (ed : (C.K.lookup p).map (fun o => (o.cls, o.dict, o.slots)) = some (.type "dict", none, #[])) (hp : p ≠ sysModules) (hn : (l.map (·.1)).Nodup) {σ : St} {w : W} (I : Inv C σ w) : Rep C w (.di (mapD .str l)) (.ref p) := by
  obtain ⟨es, q, e⟩ := (Option.any_eq_true ..).mp e
  obtain ⟨o, hk, q⟩ := Option.bind_eq_some_iff.mp q
  rw [hk] at ed
  have ed := Option.some.inj ed
  obtain ⟨kvs, a1, a2, a3, a4⟩ := glE_ok (C := C) (w := w) e
  obtain ⟨ep, hd⟩ : ∃ ep, o.data = .dict es ep := by
    unfold esOf at q
    split at q
    · rename_i q'; exact ⟨_, q'.trans (by rw [Option.some.inj q])⟩
    · cases q
  exact ⟨p, o, kvs, hp, I.base _ _ (C.inK _ _ hk), ⟨es, ep, ⟨congrArg (·.1) ed, congrArg (·.2.1) ed, congrArg (·.2.2) ed⟩, hd, (fun x m => a1 x (Array.mem_toList_iff.mpr m)), a2, by rw [a3]; exact hn⟩, a4⟩
end
section
variable {h1 h : Heap} {mg mb : Str → Option Value} {prog : Program} {w : World} (H : HdOk h1 h mg mb)
theorem lim_ok : (cx prog w H).h0.NoLimit := H.lim.at fun o e => ghost_ne e (by decide)
theorem names_ok : Names (cx prog w H) := ⟨lim_ok H, bi_at H 0 rfl, bi_at H 1 rfl, bi_at H 2 rfl, bi_at H 3 rfl, bi_at H 4 rfl, bi_at H 5 rfl, bi_at H 6 rfl, bi_at H 7 rfl, bi_at H 8 rfl, bi_at H 9 rfl, bi_at H 10 rfl, bi_at H 11 rfl, bi_at H 12 rfl, bi_at H 13 rfl, bi_at H 14 rfl⟩
noncomputable def prOk : Pr (cx prog w H) where
  G := names_ok H
  a2 := 49
  F2 := ⟨glb_at H 0 rfl, fn_at H 0 rfl rfl⟩
  a3 := 56
  F3 := ⟨glb_at H 1 rfl, fn_at H 1 rfl rfl⟩
  a4 := 63
  F4 := ⟨glb_at H 2 rfl, fn_at H 2 rfl rfl⟩
  fl := ⟨_, (glb_at H 3 rfl).at_, fun σ w I => gl_ok (H.S.i 3 rfl) H.S.d (by decide) (by decide) I⟩
  a7 := 71
  F7 := ⟨glb_at H 4 rfl, fn_at H 3 rfl rfl⟩
  a8 := 78
  F8 := ⟨glb_at H 5 rfl, fn_at H 4 rfl rfl⟩
  a12 := 127
  F12 := ⟨glb_at H 6 rfl, fn_at H 5 rfl rfl⟩
  p12 := 122
  T12 := tab_fn H (eq_of_beq (H.S.i 18 rfl)) (.head _)
  a13 := 132
  F13 := ⟨glb_at H 7 rfl, fn_at H 6 rfl rfl⟩
  a14 := 137
  F14 := ⟨glb_at H 8 rfl, fn_at H 7 rfl rfl⟩
  a15 := 144
  F15 := ⟨glb_at H 9 rfl, fn_at H 8 rfl rfl⟩
  a16 := 149
  F16 := ⟨glb_at H 10 rfl, fn_at H 9 rfl rfl⟩
  tc := 38
  tg := glb_at H 12 rfl
  ti := ins_ok (H.S.i 11 rfl)
  t0 := 28
  T0 := ⟨fn_at H 11 rfl rfl⟩
  tn := new_ok (H.S.i 4 rfl)
  t1 := 35
  T1 := ⟨fn_at H 12 rfl rfl⟩
  tm := mth_ok (H.S.i 6 rfl)
  lx := 116
  lg := glb_at H 13 rfl
  l0 := 92
  L0 := ⟨fn_at H 13 rfl rfl⟩
  lnw := new_ok (H.S.i 5 rfl)
  l2 := 106
  l3 := 113
  X := ⟨ins_ok (H.S.i 12 rfl), ins_ok (H.S.i 13 rfl), ins_ok (H.S.i 14 rfl), ins_ok (H.S.i 15 rfl), ⟨fn_at H 14 rfl rfl⟩, mth_ok (H.S.i 7 rfl), bnd_ok (H.S.i 10 rfl), ⟨fn_at H 15 rfl rfl⟩, mth_ok (H.S.i 8 rfl), ⟨fn_at H 16 rfl rfl⟩, mth_ok (H.S.i 9 rfl), lam_1 H⟩
theorem law_fn (L : List Int) (hL : L.length ≤ 63) : ∃ σ', FnTo (cx prog w H) 6 154 [.lst (L.map .int)] [.tab 122 [], .tab 151 []] (.bool true) σ' ∧ σ'[0]? = some (.tab 122 lnS) ∧ σ'[1]? = some (.tab 151 lnL) := by
  have T : FnTab (cx prog w H) (pT 17) 154 151 := tab_fn H (eq_of_beq (H.S.i 19 rfl)) (.tail _ (.head _))
  have F : FnP (cx prog w H) "law" 17 154 := ⟨glb_at H 11 rfl, fn_at H 10 rfl rfl⟩
  obtain ⟨σ', f, t0, t1⟩ := law_run (prOk H) (lam_0 H) (lam_1 H) ⟨fn_at H 13 rfl rfl⟩ T.ba L hL
  exact ⟨σ', fn_to (f := fd17) F (lim_ok H) fd17_ok (.cons 0 rfl rfl .nil) fun c hc => .ret fun A env hc' => f A env ⟨c, hc', T.hd c hc⟩, t0, t1⟩
noncomputable def w0 (s : Shared) : W := ⟨s, fun b => if b = 122 then .ob 0 else if b = 151 then .ob 1 else .fz, [122, 151]⟩
theorem inv_0 {s : Shared} (hs : s.heap = h) : Inv (cx prog w H) [.tab 122 [], .tab 151 []] (w0 s) where
  base b o e := by
    have e : (hideAll h [122, 151]).get? b = some o := e
    have no : b ∉ [122, 151] := fun m => by rw [hideAll_none [122, 151] m] at e; cases e
    have n1 : b ≠ 122 := fun q => no (by rw [q]; exact .head _)
    have n2 : b ≠ 151 := fun q => no (by rw [q]; exact .tail _ (.head _))
    exact ⟨(if_neg n1).trans (if_neg n2), hs ▸ of_hideAll _ e⟩
  dead b e := by
    have e : h.get? b = none := hs ▸ e
    have n1 : b ≠ 122 := fun q => nomatch ((q ▸ e : h.get? 122 = none).symm.trans (H.T (126, 122) (.head _)).2)
    have n2 : b ≠ 151 := fun q => nomatch ((q ▸ e : h.get? 151 = none).symm.trans (H.T (153, 151) (.tail _ (.head _))).2)
    exact (if_neg n1).trans (if_neg n2)
  own b k q := by
    unfold w0 at q
    dsimp only at q
    split at q
    · cases q
    · split at q <;> cases q
  obj b n q := by
    unfold w0 at q
    dsimp only at q
    split at q
    · cases q; decide
    · split at q
      · cases q; decide
      · cases q
  len := rfl
  ok n c a e1 e2 := by
    have t := H.T
    match n, e1, e2 with
    | 0, e1, e2 =>
      cases e1; cases e2
      exact ⟨rfl, #[], ⟨rfl, hs ▸ (t (126, 122) (.head _)).2⟩, trivial, fun p u0 => rfl⟩
    | 1, e1, e2 =>
      cases e1; cases e2
      exact ⟨rfl, #[], ⟨rfl, hs ▸ (t (153, 151) (.tail _ (.head _))).2⟩, trivial, fun p u0 => rfl⟩
end
end Mine
end
section
open PySem PySem.W PyProof.Rows
set_option maxHeartbeats 0
namespace Mine
theorem lawok : PySem.Challenge.rw_xc0017_02.wellSaid = true := by kernel_rfl
theorem ints_rep {C : Cx} {w : W} : ∀ {vs : List Value} {ns : List Int}, IntsAre vs ns → RepL C w (ns.map .int) vs
  | _, _, .nil => rfl
  | _, _, .cons n t r => ⟨_, _, ⟨t, rfl⟩, ints_rep r⟩
theorem list_at {h : Heap} {a : Addr} {vs us : List Value} (hL : h.IsList a vs.toArray) (hl : h.get? a = some { cls := .type "list", data := .seq us.toArray }) : h.get? a = some { cls := .type "list", data := .seq vs.toArray } := by
  obtain ⟨o', e1, u1, n, e3⟩ := hL
  rw [hl] at e1
  cases e1
  injection e3 with e3 e4
  rw [hl, e3]
theorem law_call {h1 : Heap} {mg mb : Str → Option Value} {w : World} {s : Shared} (H : HdOk h1 s.heap mg mb) {a : Addr} {vs : List Value} {ns : List Int} (hl : ns.length ≤ 63) (ha : s.heap.get? a = some { cls := .type "list", data := .seq vs.toArray }) (hI : IntsAre vs ns) {R : Result → Shared → Prop}
    (hq : ∀ s', (∀ b o, (ghostOf s.heap tbs).get? b = some o → s'.heap.get? b = some o) → s'.os = s.os → s'.gens = s.gens → GrownAll tbs s'.heap → R (.ok (.ret (.bool true))) s') :
    codeAny (model PySem.Challenge.rw_xc0017_02.row.prog w) callerA (.call (.ref 154) ⟨[.ref a], []⟩) R s := by
  obtain ⟨σ', f, t0, t1⟩ := law_fn (prog := PySem.Challenge.rw_xc0017_02.row.prog) (w := w) H ns hl
  have na : ∀ P, s.heap.get? P = some (tabObj #[]) → a ≠ P := fun P e q => by rw [q, e] at ha; cases ha
  have n1 := na 122 (H.T (126, 122) (.head _)).2
  have n2 := na 151 (H.T (153, 151) (.tail _ (.head _))).2
  have hr : Rep (cx PySem.Challenge.rw_xc0017_02.row.prog w H) (w0 s) (.lst (ns.map .int)) (.ref a) := ⟨a, vs, 0, ⟨(if_neg n1).trans (if_neg n2), ha⟩, ints_rep hI⟩
  refine f (w := w0 s) (v := .ref 154) (vals := [.ref a]) ⟨rfl, by decide, by decide⟩ (inv_0 H rfl) rfl (HCons.mk (Value.ref a) [] hr rfl) fun u s' ⟨w', x, I, r⟩ => ?_
  cases r
  obtain ⟨hh, tk, hrest⟩ := x.rest
  refine hq _ (fun b o e => (I.base b o e).is) (by rw [hrest]; rfl) (by rw [hrest]; rfl) ?_
  obtain ⟨u1, ps0, z0, u2⟩ := I.ok 0 _ 122 t0 (x.main 0 122 rfl)
  obtain ⟨u1, ps1, z1, u2⟩ := I.ok 1 _ 151 t1 (x.main 1 151 rfl)
  exact ⟨⟨ps0, z0.is⟩, ⟨ps1, z1.is⟩, trivial⟩
theorem final02 : PySem.Challenge.rw_xc0017_02.Holds := by
  refine holds_law lawok fun said => ?_
  refine holds_open (q := q2) (XP := XL q2 []) (YP := Hook.says hk) left2 (Hook.of hk) (Hook.keeps hk) (fun s e => xl_of s (Bool.and_eq_true_iff.mp e).1) XL.keeps (by rfl) (by rfl) (by rfl) (fun s e => recFacts_of (Bool.and_eq_true_iff.mp e).2) (by rfl) said (by decide +kernel) ⟨rfl, rfl, rfl, rfl, rfl, by decide +kernel⟩ ?hw ?hc
  case hw => w_witness2
  intro w s₀ s₁ mg mb G Y fa o pm cd doc dV kV ho hd hcd hD hmg hg args vals as hpre hlay hrd hwl hlo
  refine Ground.open G ?_
  intro T B D TE TW
  obtain ⟨h1, S, k⟩ := Y
  have H : HdOk h1 s₁.heap mg mb := ⟨S, k, T.g, T.b, T.builtins, T.nolimit, T.bmain⟩
  have hfa : fa = 154 := by
    have e := (glb_at (prog := PySem.Challenge.rw_xc0017_02.row.prog) (w := w) H 11 rfl).at_
    rw [show (cx PySem.Challenge.rw_xc0017_02.row.prog w H).mg "law" = some (.ref fa) from hmg] at e
    cases e; rfl
  subst hfa
  clear T B D TE TW hmg ho hd hcd hD
  wrow_args hpre hlay hrd hwl hlo
  rename_i ns _ _ _ _ _ _ _ a vs _ hL _ w1 _ hI _ hlen _
  refine enter_call (kn_post H.T (fun u0 u0 => rfl) ?_)
  cases w1 with
  | list hl _ =>
    refine law_call H (vs := vs) (ns := ns) (by omega) (list_at hL hl) hI fun s' k1 k2 k3 k4 => ?_
    · refine ⟨⟨.inl ⟨.bool true, .bool true, [], rfl, fun u0 => rfl, .bool true, ?_, fun u0 => ⟨.nil, fun u0 m => by cases m⟩⟩, k1, k2, k3.trans hg⟩, k4⟩
      kernel_rfl
end Mine
end
theorem PySem.Challenge.cw_xc0017_02_holds : PySem.Challenge.rw_xc0017_02.Holds := by
  exact Mine.final02
