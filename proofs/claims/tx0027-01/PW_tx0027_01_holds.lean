import PyProof.Rows.All
import Wide.All
import OpenK.AllK
import Wide.FinOn
import PySem.Challenge.RW_tx0027_01
open PySem PySem.W PyProof.Rows
set_option Elab.async false
set_option genSizeOf false
set_option genInjectivity false
set_option linter.unusedVariables false
set_option linter.unusedSectionVars false
namespace Mine
inductive MV where
  | none
  | bool (b : Bool)
  | int (i : Int)
  | str (s : Str)
  | list (xs : List MV)
  | tup (xs : List MV)
  | ref (a : Addr)
  | clo (k : Nat) (vs : List MV)
  deriving Inhabited
abbrev MH := List (Addr × List MV)
abbrev keys (H : MH) : List Addr := H.map (·.1)
abbrev Loc := List (Option MV)
structure CloD where
  name : Str
  qual : Str
  params : Arguments
  body : FuncBody
  scope : Scope
  self : Option Str
  free : List Str
structure Stat where
  prog : Program
  w : World
  B : Heap
  mg : Str → Option Value
  mb : Str → Option Value
  tabs : List (Addr × Addr × Str)
  clo : Nat → CloD
variable (G : Stat)
abbrev Stat.TP : List Addr := G.tabs.map (·.2.1)
abbrev lobj (vs : Array Value) (n : Nat) : Obj := { cls := .type "list", data := .seq vs n }
abbrev tobj (vs : Array Value) (n : Nat) : Obj := { cls := .type "tuple", data := .seq vs n }
structure FdOk (D : CloD) (fd : FuncData) : Prop where
  name : fd.name = D.name
  qual : fd.qualname = D.qual
  params : fd.params = D.params
  body : fd.body = D.body
  scope : fd.scope = D.scope
  globals : fd.globals = mainGlobals
  defaults : fd.defaults = .none
  kwd : fd.kwdefaults = .none
  builtins : fd.builtins = builtinsNs
mutual
noncomputable def VR (X : List Addr) (h : Heap) : MV → Value → Prop
  | .none, v => v = .none
  | .bool b, v => v = .bool b
  | .int i, v => ∃ t, v = .int i t
  | .str s, v => ∃ t, v = .str s t
  | .list xs, v => ∃ a n vs, v = .ref a ∧ a ∉ X ∧ h.get? a = some (lobj vs n) ∧ VRs X h xs vs.toList
  | .tup xs, v => ∃ a n vs, v = .ref a ∧ a ∉ X ∧ h.get? a = some (tobj vs n) ∧ VRs X h xs vs.toList
  | .ref a, v => v = .ref a
  | .clo k vs, v => ∃ a o fd c, v = .ref a ∧ a ∉ X ∧ h.get? a = some o ∧ o.data = .func fd ∧ FdOk (G.clo k) fd ∧ fd.code = .ref c ∧ c ∉ X ∧
      h.CodeRec (.ref c) (G.clo k).qual ∧ (∀ x, (G.clo k).self = some x → ∃ c', fd.closure.lookup x = some c' ∧ c' ∉ X ∧ h.IsCell c' (some (.ref a))) ∧
      VF X h fd.closure vs (G.clo k).free
noncomputable def VRs (X : List Addr) (h : Heap) : List MV → List Value → Prop
  | [], vs => vs = []
  | x :: xs, vs => ∃ v r, vs = v :: r ∧ VR X h x v ∧ VRs X h xs r
noncomputable def VF (X : List Addr) (h : Heap) (cl : List (Str × Addr)) : List MV → List Str → Prop
  | [], xs => xs = []
  | v :: vs, xs => ∃ x r, xs = x :: r ∧ (∃ c rv, cl.lookup x = some c ∧ c ∉ X ∧ h.IsCell c (some rv) ∧ VR X h v rv) ∧ VF X h cl vs r
end
noncomputable def Keep (X : List Addr) (h h' : Heap) : Prop := ∀ a o, a ∉ X → o.data ≠ .cell none → h.get? a = some o → h'.get? a = some o
theorem Keep.refl (X : List Addr) (h : Heap) : Keep X h h := fun _ _ _ _ e => e
theorem codeRec_keep {X : List Addr} {h h' : Heap} {c : Addr} {q : Str} (k : Keep X h h') (hc : c ∉ X) (x : h.CodeRec (.ref c) q) : h'.CodeRec (.ref c) q := by
  obtain ⟨c', o, vs, t, e, g, d, r⟩ := x
  cases e
  exact ⟨c, o, vs, t, rfl, k _ _ hc (by rw [d]; nofun) g, d, r⟩
theorem cell_keep {X : List Addr} {h h' : Heap} {c : Addr} {v : Value} (k : Keep X h h') (hc : c ∉ X) (x : h.IsCell c (some v)) : h'.IsCell c (some v) := by
  obtain ⟨o, g, d⟩ := x
  exact ⟨o, k _ _ hc (by rw [d]; nofun) g, d⟩
noncomputable def Sub (h : Heap) (X' X : List Addr) : Prop := ∀ a, a ∈ X' → a ∈ X ∨ h.get? a = none
theorem Sub.not {h : Heap} {X' X : List Addr} (s : Sub h X' X) {a : Addr} {o : Obj} (hx : a ∉ X) (e : h.get? a = some o) : a ∉ X' := fun m => by
  rcases s a m with q | q
  · exact hx q
  · rw [q] at e; cases e
theorem Sub.refl (h : Heap) (X : List Addr) : Sub h X X := fun _ m => .inl m
section
variable {G} {X X' : List Addr} {h h' : Heap} (k : Keep X h h') (s : Sub h X' X)
include k s
mutual
theorem VR.keep : ∀ (m : MV) (v : Value), VR G X h m v → VR G X' h' m v
  | .none, v, x => x
  | .bool b, v, x => x
  | .int i, v, x => x
  | .str s, v, x => x
  | .list xs, v, x => by
    unfold VR at x ⊢
    obtain ⟨a, n, vs, e, hx, g, r⟩ := x
    exact ⟨a, n, vs, e, s.not hx g, k _ _ hx (by nofun) g, VRs.keep xs _ r⟩
  | .tup xs, v, x => by
    unfold VR at x ⊢
    obtain ⟨a, n, vs, e, hx, g, r⟩ := x
    exact ⟨a, n, vs, e, s.not hx g, k _ _ hx (by nofun) g, VRs.keep xs _ r⟩
  | .ref a, v, x => x
  | .clo j vs, v, x => by
    unfold VR at x ⊢
    obtain ⟨a, o, fd, c, e, hx, g, d, ok, ec, hc, rc, sf, r⟩ := x
    refine ⟨a, o, fd, c, e, s.not hx g, k _ _ hx (by rw [d]; nofun) g, d, ok, ec, ?_, codeRec_keep k hc rc, fun y hy => ?_, VF.keep _ vs _ r⟩
    · obtain ⟨c', o', _, _, e', g', _⟩ := rc; cases e'; exact s.not hc g'
    · obtain ⟨c', e', hc', ic⟩ := sf y hy
      refine ⟨c', e', ?_, cell_keep k hc' ic⟩
      obtain ⟨o', g', _⟩ := ic
      exact s.not hc' g'
theorem VRs.keep : ∀ (xs : List MV) (vs : List Value), VRs G X h xs vs → VRs G X' h' xs vs
  | [], vs, x => x
  | m :: ms, vs, x => by
    unfold VRs at x ⊢
    obtain ⟨v, r, e, a, b⟩ := x
    exact ⟨v, r, e, VR.keep m v a, VRs.keep ms r b⟩
theorem VF.keep (cl : List (Str × Addr)) : ∀ (vs : List MV) (xs : List Str), VF G X h cl vs xs → VF G X' h' cl vs xs
  | [], xs, x => x
  | m :: ms, xs, x => by
    unfold VF at x ⊢
    obtain ⟨y, r, e, ⟨c, rv, ec, hc, ic, a⟩, b⟩ := x
    refine ⟨y, r, e, ⟨c, rv, ec, ?_, cell_keep k hc ic, VR.keep m rv a⟩, VF.keep cl ms r b⟩
    obtain ⟨o', g', _⟩ := ic
    exact s.not hc g'
end
end
end Mine
namespace Mine
inductive SK where | loc | nc | cc | fr
  deriving DecidableEq
structure Ctx where
  slots : List (Str × SK)
  globs : List Str
  code : Option Addr
  qual : Str
noncomputable def Ctx.nm (C : Ctx) (i : Nat) : Str := (C.slots.getD i (Str.ofString "", .loc)).1
inductive BI where | len | divmod | min | sum
noncomputable def BI.name : BI → Str
  | .len => "len" | .divmod => "divmod" | .min => "min" | .sum => "sum"
inductive MI where | bitLength | append | reverse | count | split | startswith | endswith | find | lower | join
noncomputable def MI.name : MI → Str
  | .bitLength => "bit_length" | .append => "append" | .reverse => "reverse" | .count => "count" | .split => "split"
  | .startswith => "startswith" | .endswith => "endswith" | .find => "find" | .lower => "lower" | .join => "join"
structure CompI where
  own : List (Str × SK)
  cap : List Nat
  globs : List Str
  scope : Scope
mutual
inductive ME where
  | cn (p : Pos)
  | cb (b : Bool) (p : Pos)
  | ci (i : Int) (p : Pos)
  | cs (s : Str) (p : Pos)
  | v (i : Nat) (p : Pos)
  | gc (x : Str) (v : MV) (p : Pos)
  | bin (op : Operator) (a b : ME) (p : Pos)
  | rep (a n : ME) (m : Bool) (p : Pos)
  | un (op : UnaryOp) (a : ME) (p : Pos)
  | bo (op : BoolOp) (es : MEs) (p : Pos)
  | ite (t a b : ME) (p : Pos)
  | cmp (op : CmpOp) (a b : ME) (p : Pos)
  | ls (m : Bool) (es : MEs) (p : Pos)
  | tp (es : MEs) (p : Pos)
  | ix (a i : ME) (p : Pos)
  | slL (a lo : ME) (q p : Pos)
  | slU (a hi : ME) (q p : Pos)
  | slB (a lo hi : ME) (q p : Pos)
  | cg (f : Str) (a : Addr) (pn : Pos) (es : MEs) (p : Pos)
  | cgk (f : Str) (a : Addr) (pn : Pos) (es : MEs) (k : Str) (e : ME) (pk p : Pos)
  | cv (i : Nat) (pn : Pos) (es : MEs) (p : Pos)
  | bi (b : BI) (pn : Pos) (es : MEs) (p : Pos)
  | lst (it : MIt) (m : Bool) (pn p : Pos)
  | srt (it : ME) (k : Str) (e : ME) (pk pn p : Pos)
  | mt (o : ME) (m : MI) (pa : Pos) (es : MEs) (mu : Bool) (p : Pos)
  | lm (k : Nat) (cap : List Nat) (ar : Arguments) (b : Expr) (sc : Scope) (p : Pos)
  | comp (c : CompI) (m : Bool) (elt : ME) (pt : Pos) (it : MIt) (ifs : MEs) (p : Pos)
  | fz (e : ME)
inductive MEs where
  | nil
  | cons (e : ME) (es : MEs)
inductive MIt where
  | it (e : ME)
  | rng (es : MEs) (pn p : Pos)
  | rev (e : ME) (pn p : Pos)
end
noncomputable def CompI.ctx (c : CompI) (C : Ctx) : Ctx := { slots := c.own ++ c.cap.map fun i => (C.nm i, .fr), globs := c.globs, code := none, qual := C.qual }
noncomputable def MEs.ofList : List ME → MEs
  | [] => .nil
  | e :: r => .cons e (MEs.ofList r)
noncomputable def MEs.length : MEs → Nat
  | .nil => 0
  | .cons _ es => es.length + 1
mutual
noncomputable def den (C : Ctx) : ME → Expr
  | .cn p => .Constant .none 0 p
  | .cb b p => .Constant (.bool b) 0 p
  | .ci i p => .Constant (.int i) 0 p
  | .cs s p => .Constant (.str s) 0 p
  | .v i p => .Name (C.nm i) p
  | .gc x _ p => .Name x p
  | .bin op a b p => .BinOp (den C a) op (den C b) p
  | .rep a n _ p => .BinOp (den C a) .Mult (den C n) p
  | .un op a p => .UnaryOp op (den C a) p
  | .bo op es p => .BoolOp op (dens C es) p
  | .ite t a b p => .IfExp (den C t) (den C a) (den C b) p
  | .cmp op a b p => .Compare (den C a) [op] [den C b] p
  | .ls _ es p => .List (dens C es) p
  | .tp es p => .Tuple (dens C es) 0 p
  | .ix a i p => .Subscript (den C a) (den C i) p
  | .slL a lo q p => .Subscript (den C a) (.Slice (some (den C lo)) none none q) p
  | .slU a hi q p => .Subscript (den C a) (.Slice none (some (den C hi)) none q) p
  | .slB a lo hi q p => .Subscript (den C a) (.Slice (some (den C lo)) (some (den C hi)) none q) p
  | .cg f _ pn es p => .Call (.Name f pn) (dens C es) [] p
  | .cgk f _ pn es k e pk p => .Call (.Name f pn) (dens C es) [⟨some k, den C e, pk⟩] p
  | .cv i pn es p => .Call (.Name (C.nm i) pn) (dens C es) [] p
  | .bi b pn es p => .Call (.Name b.name pn) (dens C es) [] p
  | .lst it _ pn p => .Call (.Name "list" pn) [denI C it] [] p
  | .srt it k e pk pn p => .Call (.Name "sorted" pn) [den C it] [⟨some k, den C e, pk⟩] p
  | .mt o m pa es _ p => .Call (.Attribute (den C o) m.name pa) (dens C es) [] p
  | .lm _ _ ar b sc p => .Lambda ar b sc p
  | .comp c _ elt pt it ifs p => .ListComp (den (c.ctx C) elt) [⟨.Name ((c.ctx C).nm 0) pt, denI C it, dens (c.ctx C) ifs, 0⟩] c.scope p
  | .fz e => den C e
noncomputable def dens (C : Ctx) : MEs → List Expr
  | .nil => []
  | .cons e es => den C e :: dens C es
noncomputable def denI (C : Ctx) : MIt → Expr
  | .it e => den C e
  | .rng es pn p => .Call (.Name "range" pn) (dens C es) [] p
  | .rev e pn p => .Call (.Name "reversed" pn) [den C e] [] p
end
mutual
inductive MS where
  | asg (i : Nat) (pi : Pos) (e : ME) (p : Pos)
  | asg2 (i : Nat) (pi : Pos) (j : Nat) (pj : Pos) (e : ME) (p : Pos)
  | unp (i : Nat) (pi : Pos) (j : Nat) (pj : Pos) (e : ME) (pt p : Pos)
  | swp (i : Nat) (pi : Pos) (j : Nat) (pj : Pos) (e₁ e₂ : ME) (pt pe p : Pos)
  | sst (a ix e : ME) (ps p : Pos)
  | aug (i : Nat) (pi : Pos) (op : Operator) (e : ME) (p : Pos)
  | ifs (t : ME) (b o : MSs) (p : Pos)
  | whl (t : ME) (b : MSs) (p : Pos)
  | for_ (i : Nat) (pi : Pos) (it : MIt) (b : MSs) (p : Pos)
  | ret (e : ME) (p : Pos)
  | ret0 (p : Pos)
  | del (a ix : ME) (ps p : Pos)
  | exq (e : ME) (p : Pos)
  | dfn (k : Nat) (i : Nat) (cap : List Nat) (ar : Arguments) (b : List Stmt) (sc : Scope) (p : Pos)
  | asr (t : ME) (p : Pos)
  | rse (s : Stmt)
  | rsrt (e : ME) (k : Nat) (cap : List Nat) (ar : Arguments) (b : Expr) (sc : Scope) (pl pk pn pc p : Pos)
inductive MSs where
  | nil
  | cons (s : MS) (r : MSs)
end
mutual
noncomputable def denS (C : Ctx) : MS → Stmt
  | .asg i pi e p => .Assign [.Name (C.nm i) pi] (den C e) p
  | .asg2 i pi j pj e p => .Assign [.Name (C.nm i) pi, .Name (C.nm j) pj] (den C e) p
  | .unp i pi j pj e pt p => .Assign [.Tuple [.Name (C.nm i) pi, .Name (C.nm j) pj] 0 pt] (den C e) p
  | .swp i pi j pj e₁ e₂ pt pe p => .Assign [.Tuple [.Name (C.nm i) pi, .Name (C.nm j) pj] 0 pt] (.Tuple [den C e₁, den C e₂] 0 pe) p
  | .sst a ix e ps p => .Assign [.Subscript (den C a) (den C ix) ps] (den C e) p
  | .aug i pi op e p => .AugAssign (.Name (C.nm i) pi) op (den C e) p
  | .ifs t b o p => .If (den C t) (denSs C b) (denSs C o) p
  | .whl t b p => .While (den C t) (denSs C b) [] p
  | .for_ i pi it b p => .For (.Name (C.nm i) pi) (denI C it) (denSs C b) [] p
  | .ret e p => .Return (some (den C e)) p
  | .ret0 p => .Return none p
  | .del a ix ps p => .Delete [.Subscript (den C a) (den C ix) ps] p
  | .exq e p => .Expr (den C e) p
  | .dfn _ i _ ar b sc p => .FunctionDef (C.nm i) ar b [] none [] sc none (C.nm i) p
  | .asr t p => .Assert (den C t) none p
  | .rse s => s
  | .rsrt e _ _ ar b sc pl pk pn pc p => .Return (some (.Call (.Name "sorted" pn) [den C e] [⟨some "key", .Lambda ar b sc pl, pk⟩] pc)) p
noncomputable def denSs (C : Ctx) : MSs → List Stmt
  | .nil => []
  | .cons s r => denS C s :: denSs C r
end
section
variable {C : Ctx}
theorem xf {p} : den C (.cn p) = (.Constant .none 0 p) := rfl
theorem xg {b p} : den C (.cb b p) = (.Constant (.bool b) 0 p) := rfl
theorem xh {i p} : den C (.ci i p) = (.Constant (.int i) 0 p) := rfl
theorem xi {s p} : den C (.cs s p) = (.Constant (.str s) 0 p) := rfl
theorem xj {i p} : den C (.v i p) = (.Name (C.nm i) p) := rfl
theorem xk {x u1 p} : den C (.gc x u1 p) = (.Name x p) := rfl
theorem xm {op a b p} : den C (.bin op a b p) = (.BinOp (den C a) op (den C b) p) := rfl
theorem xo {a n u1 p} : den C (.rep a n u1 p) = (.BinOp (den C a) .Mult (den C n) p) := rfl
theorem xp {op a p} : den C (.un op a p) = (.UnaryOp op (den C a) p) := rfl
theorem xq {op es p} : den C (.bo op es p) = (.BoolOp op (dens C es) p) := rfl
theorem xr {t a b p} : den C (.ite t a b p) = (.IfExp (den C t) (den C a) (den C b) p) := rfl
theorem xt {op a b p} : den C (.cmp op a b p) = (.Compare (den C a) [op] [den C b] p) := rfl
theorem xu {u1 es p} : den C (.ls u1 es p) = (.List (dens C es) p) := rfl
theorem xw {es p} : den C (.tp es p) = (.Tuple (dens C es) 0 p) := rfl
theorem xx {a i p} : den C (.ix a i p) = (.Subscript (den C a) (den C i) p) := rfl
theorem xy {a lo q p} : den C (.slL a lo q p) = (.Subscript (den C a) (.Slice (some (den C lo)) none none q) p) := rfl
theorem xz {a hi q p} : den C (.slU a hi q p) = (.Subscript (den C a) (.Slice none (some (den C hi)) none q) p) := rfl
theorem y0 {a lo hi q p} : den C (.slB a lo hi q p) = (.Subscript (den C a) (.Slice (some (den C lo)) (some (den C hi)) none q) p) := rfl
theorem t8 {f u1 pn es p} : den C (.cg f u1 pn es p) = (.Call (.Name f pn) (dens C es) [] p) := rfl
theorem tc {f u1 pn es k e pk p} : den C (.cgk f u1 pn es k e pk p) = (.Call (.Name f pn) (dens C es) [⟨some k, den C e, pk⟩] p) := rfl
theorem td {i pn es p} : den C (.cv i pn es p) = (.Call (.Name (C.nm i) pn) (dens C es) [] p) := rfl
theorem te {b pn es p} : den C (.bi b pn es p) = (.Call (.Name b.name pn) (dens C es) [] p) := rfl
theorem th {it u1 pn p} : den C (.lst it u1 pn p) = (.Call (.Name "list" pn) [denI C it] [] p) := rfl
theorem y4 {it k e pk pn p} : den C (.srt it k e pk pn p) = (.Call (.Name "sorted" pn) [den C it] [⟨some k, den C e, pk⟩] p) := rfl
theorem ti {o m pa es u1 p} : den C (.mt o m pa es u1 p) = (.Call (.Attribute (den C o) m.name pa) (dens C es) [] p) := rfl
theorem tj {u1 u2 ar b sc p} : den C (.lm u1 u2 ar b sc p) = (.Lambda ar b sc p) := rfl
theorem tm {c u1 elt pt it ifs p} : den C (.comp c u1 elt pt it ifs p) = (.ListComp (den (c.ctx C) elt) [⟨.Name ((c.ctx C).nm 0) pt, denI C it, dens (c.ctx C) ifs, 0⟩] c.scope p) := rfl
theorem tn {e} : den C (.fz e) = (den C e) := rfl
theorem y5 : dens C (.nil) = ([]) := rfl
theorem re {e es} : dens C (.cons e es) = (den C e :: dens C es) := rfl
theorem y7 {e} : denI C (.it e) = (den C e) := rfl
theorem rf {es pn p} : denI C (.rng es pn p) = (.Call (.Name "range" pn) (dens C es) [] p) := rfl
theorem tq {e pn p} : denI C (.rev e pn p) = (.Call (.Name "reversed" pn) [den C e] [] p) := rfl
theorem tt {i pi e p} : denS C (.asg i pi e p) = (.Assign [.Name (C.nm i) pi] (den C e) p) := rfl
theorem y8 {i pi j pj e p} : denS C (.asg2 i pi j pj e p) = (.Assign [.Name (C.nm i) pi, .Name (C.nm j) pj] (den C e) p) := rfl
theorem y9 {i pi j pj e pt p} : denS C (.unp i pi j pj e pt p) = (.Assign [.Tuple [.Name (C.nm i) pi, .Name (C.nm j) pj] 0 pt] (den C e) p) := rfl
theorem ya {i pi j pj e₁ e₂ pt pe p} : denS C (.swp i pi j pj e₁ e₂ pt pe p) = (.Assign [.Tuple [.Name (C.nm i) pi, .Name (C.nm j) pj] 0 pt] (.Tuple [den C e₁, den C e₂] 0 pe) p) := rfl
theorem yb {a ix e ps p} : denS C (.sst a ix e ps p) = (.Assign [.Subscript (den C a) (den C ix) ps] (den C e) p) := rfl
theorem yc {i pi op e p} : denS C (.aug i pi op e p) = (.AugAssign (.Name (C.nm i) pi) op (den C e) p) := rfl
theorem yd {t b o p} : denS C (.ifs t b o p) = (.If (den C t) (denSs C b) (denSs C o) p) := rfl
theorem ye {t b p} : denS C (.whl t b p) = (.While (den C t) (denSs C b) [] p) := rfl
theorem yf {i pi it b p} : denS C (.for_ i pi it b p) = (.For (.Name (C.nm i) pi) (denI C it) (denSs C b) [] p) := rfl
theorem yg {e p} : denS C (.ret e p) = (.Return (some (den C e)) p) := rfl
theorem yh {p} : denS C (.ret0 p) = (.Return none p) := rfl
theorem yi {a ix ps p} : denS C (.del a ix ps p) = (.Delete [.Subscript (den C a) (den C ix) ps] p) := rfl
theorem yj {e p} : denS C (.exq e p) = (.Expr (den C e) p) := rfl
theorem tu {u1 i u2 ar b sc p} : denS C (.dfn u1 i u2 ar b sc p) = (.FunctionDef (C.nm i) ar b [] none [] sc none (C.nm i) p) := rfl
theorem yk {t p} : denS C (.asr t p) = (.Assert (den C t) none p) := rfl
theorem yl {s} : denS C (.rse s) = (s) := rfl
theorem tv {e u1 u2 ar b sc pl pk pn pc p} : denS C (.rsrt e u1 u2 ar b sc pl pk pn pc p) = (.Return (some (.Call (.Name "sorted" pn) [den C e] [⟨some "key", .Lambda ar b sc pl, pk⟩] pc)) p) := rfl
theorem ym : denSs C (.nil) = ([]) := rfl
theorem yn {s r} : denSs C (.cons s r) = (denS C s :: denSs C r) := rfl
end
end Mine
namespace Mine
variable (G : Stat)
noncomputable def TabOk (X : List Addr) (h : Heap) (t : Addr × Addr × Str) : Prop :=
  ∃ ps, h.get? t.2.1 = some (tabObj ps) ∧ TriplesOk ps.toList ∧ ∀ pos c', codeAmong pos ps.toList = some c' → ∃ c, c' = .ref c ∧ c ∉ X ∧ h.CodeRec (.ref c) t.2.2
structure Inv (Z : List Addr) (H : MH) (h : Heap) : Prop where
  keep : ∀ a o, G.B.get? a = some o → h.get? a = some o
  base : ∀ a o, G.B.get? a = some o → a ∉ keys H ++ Z
  tabs : ∀ t ∈ G.tabs, TabOk (keys H ++ Z) h t
  tp : ∀ a ∈ G.TP, a ∈ Z
  tpk : ∀ a ∈ keys H, a ∉ Z
  nd : (keys H).Nodup
  cells : ∀ a xs, (a, xs) ∈ H → ∃ n vs, h.get? a = some (lobj vs n) ∧ VRs G (keys H ++ Z) h xs vs.toList
  lt : ∀ a ∈ Z, ∃ o, h.get? a = some o
noncomputable def KeepE (Y : List Addr) (h h' : Heap) : Prop := ∀ a o, a ∉ Y → h.get? a = some o → h'.get? a = some o
structure Tr (Z : List Addr) (H : MH) (s : Shared) (H' : MH) (s' : Shared) : Prop where
  inv : Inv G Z H' s'.heap
  keep : KeepE (keys H ++ G.TP) s.heap s'.heap
  sub : ∀ a ∈ keys H', a ∈ keys H ∨ s.heap.get? a = none
  gens : (s'.gens, s'.drawn) = (s.gens, s.drawn)
  os : s'.os = s.os
inductive FV where
  | fn (a : Addr)
  | clo (k : Nat) (vs : List MV)
noncomputable def FVR (X : List Addr) (h : Heap) : FV → Value → Prop
  | .fn a, v => v = .ref a
  | .clo k vs, v => VR G X h (.clo k vs) v
noncomputable def KVs (X : List Addr) (h : Heap) : List (Str × MV) → List (Str × Value) → Prop
  | [], ks => ks = []
  | (x, m) :: r, ks => ∃ v q, ks = (x, v) :: q ∧ VR G X h m v ∧ KVs X h r q
structure Room (A : Around) (d : Nat) : Prop where
  hd : A.handled = none
  depth : A.depth + d ≤ 900
  units : A.units + 4 * d ≤ 9000
noncomputable def PV (Z : List Addr) (H : MH) (s : Shared) (Q : MV → MH → Prop) (v : Value) (s' : Shared) : Prop :=
  ∃ m H', Q m H' ∧ Tr G Z H s H' s' ∧ VR G (keys H' ++ Z) s'.heap m v
noncomputable def PVs (Z : List Addr) (H : MH) (s : Shared) (Q : List MV → MH → Prop) (vs : List Value) (s' : Shared) : Prop :=
  ∃ ms H', Q ms H' ∧ Tr G Z H s H' s' ∧ VRs G (keys H' ++ Z) s'.heap ms vs
noncomputable def Calls (d : Nat) (f : FV) (args : List MV) (kw : List (Str × MV)) (H : MH) (Q : MV → MH → Prop) : Prop :=
  ∀ (A : Around) (s : Shared) (Z : List Addr) (fv : Value) (vs : List Value) (kvs : List (Str × Value)),
    Room A d → Inv G Z H s.heap → FVR G (keys H ++ Z) s.heap f fv → VRs G (keys H ++ Z) s.heap args vs → KVs G (keys H ++ Z) s.heap kw kvs →
    codeAny (model G.prog G.w) A (.call fv ⟨vs, kvs⟩) (fun r s' => ∃ v, r = .ok (.ret v) ∧ PV G Z H s Q v s') s
noncomputable def newL (m : Bool) (xs : List MV) (H : MH) (K : MV → MH → Prop) : Prop :=
  match m with
  | true => ∀ a, a ∉ keys H → K (.ref a) ((a, xs) :: H)
  | false => K (.list xs) H
noncomputable def itemsOf (H : MH) : MV → Option (List MV)
  | .list xs => some xs
  | .ref a => H.lookup a
  | _ => none
noncomputable def setH (H : MH) (a : Addr) (xs : List MV) : MH := H.map fun p => if p.1 = a then (a, xs) else p
noncomputable def delH (H : MH) (a : Addr) : MH := H.filter fun p => p.1 ≠ a
noncomputable def signs (s : Str) : List MV := s.cps.toList.map fun c => .str ⟨#[c]⟩
noncomputable def allInt : List MV → Option (List Int)
  | [] => some []
  | .int i :: r => (allInt r).map (i :: ·)
  | _ :: _ => none
noncomputable def allBool : List MV → Option (List Bool)
  | [] => some []
  | .bool i :: r => (allBool r).map (i :: ·)
  | _ :: _ => none
noncomputable def allStr : List MV → Option (List Str)
  | [] => some []
  | .str i :: r => (allStr r).map (i :: ·)
  | _ :: _ => none
noncomputable def intOk (n : Int) : Prop := -(2 ^ 62) < n ∧ n < 2 ^ 62
noncomputable def iW (a : MV) (K : Int → Prop) : Prop :=
  match a with
  | .int x => K x
  | _ => False
noncomputable def sW (a : MV) (K : Str → Prop) : Prop :=
  match a with
  | .str x => K x
  | _ => False
noncomputable def lW (a : MV) (K : List MV → Prop) : Prop :=
  match a with
  | .list x => K x
  | _ => False
noncomputable def rW (a : MV) (K : Addr → Prop) : Prop :=
  match a with
  | .ref x => K x
  | _ => False
noncomputable def orW {α : Type} (o : Option α) (K : α → Prop) (E : Prop) : Prop :=
  match o with
  | some x => K x
  | none => E
noncomputable def optW {α : Type} (o : Option α) (K : α → Prop) : Prop := orW o K False
noncomputable def acW (l : List MV) (K : MV → List MV → Prop) : Prop :=
  match l with
  | x :: r => K x r
  | [] => False
noncomputable def a0W (l : List MV) (K : Prop) : Prop :=
  match l with
  | [] => K
  | _ => False
noncomputable def a1W (l : List MV) (K : MV → Prop) : Prop := acW l fun x r => a0W r (K x)
noncomputable def i2W (a b : MV) (K : Int → Int → Prop) : Prop := iW a fun x => iW b fun y => K x y
noncomputable def binW (op : Operator) (a b : MV) (K : MV → Prop) : Prop :=
  match op with
  | .Add => match a with
    | .int x => match b with | .int y => (K (.int (x + y))) | _ => False
    | .str x => match b with | .str y => (x.length + y.length ≤ 2 ^ 20 ∧ K (.str (x ++ y))) | _ => False
    | .list x => match b with | .list y => (x.length + y.length ≤ 2 ^ 20 ∧ K (.list (x ++ y))) | _ => False
    | _ => False
  | .Sub => match a with | .int x => (match b with | .int y => (K (.int (x - y))) | _ => False) | _ => False
  | .Mult => match a with | .int x => (match b with | .int y => ((Builtin.Int.intBits x + Builtin.Int.intBits y ≤ 2 ^ 27) ∧ K (.int (x * y))) | _ => False) | _ => False
  | .FloorDiv => match a with | .int x => (match b with | .int y => ((y ≠ 0 ∧ Builtin.divisionGoesByPylong x y = false) ∧ K (.int (x.fdiv y))) | _ => False) | _ => False
  | .Mod => match a with | .int x => (match b with | .int y => ((y ≠ 0) ∧ K (.int (x.fmod y))) | _ => False) | _ => False
  | .Pow => match a with | .int x => (match b with | .int y => ((x = 2 ∧ 0 ≤ y ∧ y ≤ 2 ^ 20) ∧ K (.int (2 ^ y.toNat))) | _ => False) | _ => False
  | .LShift => match a with | .int x => (match b with | .int y => ((0 ≤ y ∧ (Builtin.Int.intBits x : Int) + y ≤ 2 ^ 27) ∧ K (.int (x * 2 ^ y.toNat))) | _ => False) | _ => False
  | .RShift => match a with | .int x => (match b with | .int y => ((0 ≤ y) ∧ K (.int (x / 2 ^ y.toNat))) | _ => False) | _ => False
  | .BitAnd => match a with | .int x => (match b with | .int y => (K (.int (Builtin.bitAnd x y))) | _ => False) | _ => False
  | .BitOr => match a with | .int x => (match b with | .int y => (K (.int (Builtin.bitOr x y))) | _ => False) | _ => False
  | .BitXor => match a with | .int x => (match b with | .int y => (K (.int (Builtin.bitXor x y))) | _ => False) | _ => False
  | _ => False
noncomputable def unW (op : UnaryOp) (a : MV) (K : MV → Prop) : Prop :=
  match op with
  | .USub => match a with | .int x => (K (.int (-x))) | _ => False
  | .Invert => match a with | .int x => (K (.int (-x - 1))) | _ => False
  | _ => False
noncomputable def truW (H : MH) (a : MV) (K : Bool → Prop) : Prop :=
  match a with
  | .bool b => K b
  | .int i => K (i != 0)
  | .str s => s.length ≤ 2 ^ 20 ∧ K (!(s.length == 0))
  | .none => K false
  | .list xs => xs.length ≤ 2 ^ 20 ∧ K (!xs.isEmpty)
  | _ => False
noncomputable def inL (ys : List MV) (a : MV) (K : Bool → Prop) : Prop :=
  match a with
  | .str x => optW (allStr ys) fun l => ys.length ≤ 2 ^ 20 ∧ K (l.contains x)
  | .int x => optW (allInt ys) fun l => ys.length ≤ 2 ^ 20 ∧ K (l.contains x)
  | _ => False
noncomputable def inW (H : MH) (a b : MV) (K : Bool → Prop) : Prop :=
  match b with
  | .str y => match a with | .str x => (K (Txt.contains y x)) | _ => False
  | b => optW (itemsOf H b) fun ys => inL ys a K
noncomputable def eqL {α : Type} [BEq α] (f : List MV → Option (List α)) (x y : List MV) (K : Bool → Prop) (E : Prop) : Prop :=
  orW (f x) (fun u => orW (f y) (fun v => (x.length ≤ 2 ^ 20 ∧ y.length ≤ 2 ^ 20) ∧ K (u == v)) E) E
noncomputable def eqW (a b : MV) (K : Bool → Prop) : Prop :=
  match a with
  | .int x => match b with | .int y => (K (x == y)) | _ => False
  | .str x => match b with | .str y => (K (x == y)) | _ => False
  | .list x => match b with | .list y => (eqL allInt x y K (eqL allBool x y K False)) | _ => False
  | _ => False
noncomputable def cmpW (H : MH) (op : CmpOp) (a b : MV) (K : Bool → Prop) : Prop :=
  match op with
  | .Lt => match a with
    | .int x => match b with | .int y => (K (decide (x < y))) | _ => False
    | .bool x => match b with
      | .bool y => K (!x && y)
      | _ => False
    | _ => False
  | .LtE => match a with | .int x => (match b with | .int y => (K (decide (x ≤ y))) | _ => False) | _ => False
  | .Gt => match a with | .int x => (match b with | .int y => (K (decide (x > y))) | _ => False) | _ => False
  | .GtE => match a with | .int x => (match b with | .int y => (K (decide (x ≥ y))) | _ => False) | _ => False
  | .Eq => eqW a b K
  | .NotEq => eqW a b fun c => K (!c)
  | .In => inW H a b K
  | .NotIn => inW H a b fun c => K (!c)
  | .Is => match b with
    | .none => K (match a with | .none => true | _ => false)
    | _ => False
  | .IsNot => False
noncomputable def place (n : Nat) (i : Int) : Option Nat := if 0 ≤ i then (if i < n then some i.toNat else none) else (if 0 ≤ i + n then some (i + n).toNat else none)
noncomputable def ixW (H : MH) (a i : MV) (K : MV → Prop) : Prop :=
  match i with | .int k => (intOk k ∧ (match a with | .str s => (optW (place s.cps.size k) fun j => optW s.cps[j]? fun c => K (.str ⟨#[c]⟩)) | a => (optW (itemsOf H a) fun xs => optW (place xs.length k) fun j => optW xs[j]? K))) | _ => False
noncomputable def clampS (n : Nat) (i : Int) : Nat := if 0 ≤ i then min i.toNat n else (i + n).toNat
noncomputable def sliceL {α : Type} (xs : List α) (lo hi : Option Int) : List α :=
  (xs.take ((hi.map (clampS xs.length)).getD xs.length)).drop ((lo.map (clampS xs.length)).getD 0)
noncomputable def optI : MV → Option (Option Int)
  | .none => some none
  | .int i => some (some i)
  | _ => none
noncomputable def slW (H : MH) (a : MV) (lo hi : MV) (K : MV → Prop) : Prop :=
  optW (optI lo) fun l => optW (optI hi) fun u => (match a with | .str s => (s.length ≤ 2 ^ 20 ∧ K (.str ⟨(sliceL s.cps.toList l u).toArray⟩)) | a => (optW (itemsOf H a) fun xs => xs.length ≤ 2 ^ 20 ∧ K (.list (sliceL xs l u))))
noncomputable def lkW (o : Option (List MV)) (K : List MV → Prop) : Prop :=
  match o with
  | some x => K x
  | none => False
noncomputable def atW (H : MH) (a : MV) (K : Addr → List MV → Prop) : Prop :=
  match a with
  | .ref a => lkW (H.lookup a) fun xs => K a xs
  | _ => False
noncomputable def setW (H : MH) (a i v : MV) (K : MH → Prop) : Prop :=
  atW H a fun a xs => match i with | .int k => ((0 ≤ k ∧ k < xs.length ∧ xs.length ≤ 2 ^ 20) ∧ K (setH H a (xs.set k.toNat v))) | _ => False
noncomputable def delW (H : MH) (a i : MV) (K : MH → Prop) : Prop :=
  atW H a fun a xs => match i with | .int k => (intOk k ∧ optW (place xs.length k) fun j => xs.length ≤ 2 ^ 20 ∧ K (setH H a (xs.eraseIdx j))) | _ => False
noncomputable def biW (b : BI) (args : List MV) (H : MH) (K : MV → Prop) : Prop :=
  match b with
  | .len => match args with | a :: q1 => (match q1 with | [] => ((match a with | .str s => (s.length ≤ 2 ^ 20 ∧ K (.int s.length)) | a => (optW (itemsOf H a) fun xs => xs.length ≤ 2 ^ 20 ∧ K (.int xs.length)))) | _ => False) | [] => False
  | .divmod => match args with | a :: r => (match r with | b :: q2 => (match q2 with | [] => (match a with | .int x => (match b with | .int y => ((y ≠ 0 ∧ Builtin.divisionGoesByPylong x y = false) ∧ K (.tup [.int (x.fdiv y), .int (x.fmod y)])) | _ => False) | _ => False) | _ => False) | [] => False) | [] => False
  | .min => match args with | a :: r => (match r with | b :: q => (match a with | .int x => (match b with | .int y => ((match q with | [] => (K (.int (min x y))) | c :: r => match r with | [] => ((match c with | .int z => (K (.int (min (min x y) z))) | _ => False)) | _ => False)) | _ => False) | _ => False) | [] => False) | [] => False
  | .sum => match args with | a :: q3 => (match q3 with | [] => (match a with | .list xs => (optW (allInt xs) fun l => K (.int l.sum)) | _ => False) | _ => False) | [] => False
noncomputable def mtW (m : MI) (o : MV) (args : List MV) (mu : Bool) (H : MH) (K : MV → MH → Prop) : Prop :=
  match m with
  | .bitLength => match args with | [] => ((match o with | .int x => (K (.int (Builtin.Int.intBits x)) H) | _ => False)) | _ => False
  | .append => match args with | v :: q4 => (match q4 with | [] => (atW H o fun a xs => xs.length ≤ 2 ^ 20 ∧ K .none (setH H a (xs ++ [v]))) | _ => False) | [] => False
  | .reverse => match args with | [] => ((atW H o fun a xs => xs.length ≤ 2 ^ 20 ∧ K .none (setH H a xs.reverse))) | _ => False
  | .count => match args with | v :: q5 => (match q5 with | [] => (match v with | .int x => (optW (itemsOf H o) fun xs => optW (allInt xs) fun l => xs.length ≤ 2 ^ 20 ∧ K (.int (l.count x)) H) | _ => False) | _ => False) | [] => False
  | .startswith => match args with | v :: q6 => (match q6 with | [] => (match v with | .str y => (match o with | .str x => (K (.bool (Txt.startswith x y)) H) | _ => False) | _ => False) | _ => False) | [] => False
  | .endswith => match args with | v :: q7 => (match q7 with | [] => (match v with | .str y => (match o with | .str x => (K (.bool (Txt.endswith x y)) H) | _ => False) | _ => False) | _ => False) | [] => False
  | .lower => match args with | [] => ((match o with | .str x => (x.length ≤ 2 ^ 20 ∧ K (.str (Txt.lower x)) H) | _ => False)) | _ => False
  | .split => match args with | v :: q8 => (match q8 with | [] => (match v with | .str y => (match o with | .str x => ((y.length ≠ 0 ∧ x.length ≤ 2 ^ 20) ∧ newL mu ((Txt.split x y).map .str) H K) | _ => False) | _ => False) | _ => False) | [] => False
  | .join => match args with | a :: q9 => (match q9 with | [] => (match o with | .str x => (optW (itemsOf H a) fun ys => optW (allStr ys) fun l => JoinOk x l = true ∧ K (.str (Txt.join x l)) H) | _ => False) | _ => False) | [] => False
  | .find => match args with | v :: r => (match r with | a :: q => (match q with | b :: q10 => (match q10 with | [] => (match v with | .str y => (match a with | .int i => (match b with | .int j => (match o with | .str x => ((0 ≤ i ∧ 0 ≤ j ∧ j ≤ x.length) ∧ K (.int (match Builtin.Str.occurrences x y i.toNat j.toNat 1 with | k :: _ => (k : Int) | [] => -1)) H) | _ => False) | _ => False) | _ => False) | _ => False) | _ => False) | [] => False) | [] => False) | [] => False
noncomputable def MV.isStr : MV → Bool
  | .str _ => true
  | _ => false
noncomputable def MV.isInt : MV → Bool
  | .int _ => true
  | _ => false
noncomputable def mtT (m : MI) (o : MV) (H : MH) : Prop :=
  match m with
  | .bitLength => o.isInt = true
  | .append => (itemsOf H o).isSome = true
  | .reverse => (itemsOf H o).isSome = true
  | .count => (itemsOf H o).isSome = true
  | _ => o.isStr = true
noncomputable def rangeL (a b c : Int) : List MV := (List.range (Builtin.Range.rangeSize a b c).toNat).map fun (k : Nat) => MV.int (a + (k : Int) * c)
noncomputable def rngW (args : List MV) (K : List MV → Prop) : Prop :=
  match args with | a :: r => (match a with | .int x => (match r with | [] => (intOk x ∧ K (rangeL 0 x 1)) | b :: r => match r with | c :: q11 => (match q11 with | [] => (match b with | .int y => (match c with | .int z => ((intOk x ∧ intOk y ∧ 0 < z ∧ z < 2 ^ 20) ∧ K (rangeL x y z)) | _ => False) | _ => False) | _ => False) | [] => False) | _ => False) | [] => False
noncomputable def itW (H : MH) (a : MV) (K : List MV → MH → Prop) : Prop :=
  match a with
  | .list xs => xs.length ≤ 2 ^ 20 ∧ K xs H
  | .str s => s.length ≤ 2 ^ 20 ∧ K (signs s) H
  | .ref a => optW (H.lookup a) fun xs => xs.length ≤ 2 ^ 20 ∧ K xs (delH H a)
  | _ => False
noncomputable def compGo (t : MV → MH → (Bool → MH → Prop) → Prop) (f : MV → MH → (MV → MH → Prop) → Prop) (K : List MV → MH → Prop) : List MV → List MV → MH → Prop
  | [], acc, H => K acc H
  | x :: xs, acc, H => t x H fun ok H' => match ok with
    | true => f x H' fun v H'' => compGo t f K xs (acc ++ [v]) H''
    | false => compGo t f K xs acc H'
noncomputable def capV (l : Loc) : List Nat → Option (List MV)
  | [] => some []
  | i :: r => match l[i]? with
    | some (some v) => (capV l r).map (v :: ·)
    | _ => none
noncomputable def freeNames (sc : Scope) : List Str := (sc.names.filter fun x => x.2 == .free).map (·.1)
structure CloOk (C : Ctx) (k : Nat) (slf : Option Str) (name : Str) (ar : Arguments) (b : FuncBody) (sc : Scope) (cap : List Nat) : Prop where
  is : G.clo k = { name := name, qual := C.qual ++ name, params := ar, body := b, scope := sc, self := slf, free := cap.map C.nm }
  kind : ∀ i ∈ cap, ∃ x, C.slots[i]? = some (x, .cc)
  all : ∀ x ∈ freeNames sc, x ∈ cap.map C.nm ∨ slf = some x
  only : ∀ x, x ∈ cap.map C.nm ∨ slf = some x → x ∈ freeNames sc
  tab : ∃ c P, C.code = some c ∧ (c, P, C.qual ++ name) ∈ G.tabs
  dfl : ar.defaults = [] ∧ ar.kw_defaults = [] ∧ ar.posonlyargs = [] ∧ ar.vararg = none ∧ ar.kwonlyargs = [] ∧ ar.kwarg = none ∧ (∀ a ∈ ar.args, a.annotation = none)
mutual
noncomputable def ev (d : Nat) : ME → Ctx → Loc → MH → (MV → MH → Prop) → Prop
  | .cn _, C, _, H, Q => Q .none H
  | .cb b _, C, _, H, Q => Q (.bool b) H
  | .ci i _, C, _, H, Q => Q (.int i) H
  | .cs s _, C, _, H, Q => Q (.str s) H
  | .v i _, C, l, H, Q => match l[i]? with
    | some (some v) => Q v H
    | _ => False
  | .gc x v _, C, _, H, Q => (∃ rv, G.mg x = some rv ∧ ∀ X h, VR G X h v rv) ∧ Q v H
  | .bin op a b _, C, l, H, Q => ev d a C l H fun va H₁ => ev d b C l H₁ fun vb H₂ => binW op va vb fun v => Q v H₂
  | .rep a n m _, C, l, H, Q => ev d a C l H fun va H₁ => ev d n C l H₁ fun vn H₂ => match va with | .list xs => (match xs with | x :: q12 => (match q12 with | [] => (match vn with | .int k => ((0 ≤ k ∧ k ≤ 2 ^ 20) ∧ newL m (List.replicate k.toNat x) H₂ Q) | _ => False) | _ => False) | [] => False) | _ => False
  | .un op a _, C, l, H, Q => ev d a C l H fun va H₁ => unW op va fun v => Q v H₁
  | .bo op es _, C, l, H, Q => evB d op es C l H Q
  | .ite t a b _, C, l, H, Q => evT d t C l H (ev d t C l H) fun c H₁ => match c with
    | true => ev d a C l H₁ Q
    | false => ev d b C l H₁ Q
  | .cmp op a b _, C, l, H, Q => ev d a C l H fun va H₁ => ev d b C l H₁ fun vb H₂ => cmpW H₂ op va vb fun c => Q (.bool c) H₂
  | .ls m es _, C, l, H, Q => evs d es C l H fun vs H₁ => vs.length ≤ 2 ^ 20 ∧ newL m vs H₁ Q
  | .tp es _, C, l, H, Q => evs d es C l H fun vs H₁ => vs.length ≤ 2 ^ 20 ∧ Q (.tup vs) H₁
  | .ix a i _, C, l, H, Q => ev d a C l H fun va H₁ => ev d i C l H₁ fun vi H₂ => ixW H₂ va vi fun v => Q v H₂
  | .slL a lo _ _, C, l, H, Q => ev d a C l H fun va H₁ => ev d lo C l H₁ fun vl H₂ => slW H₂ va vl .none fun v => Q v H₂
  | .slU a hi _ _, C, l, H, Q => ev d a C l H fun va H₁ => ev d hi C l H₁ fun vu H₂ => slW H₂ va .none vu fun v => Q v H₂
  | .slB a lo hi _ _, C, l, H, Q => ev d a C l H fun va H₁ => ev d lo C l H₁ fun vl H₂ => ev d hi C l H₂ fun vu H₃ => slW H₃ va vl vu fun v => Q v H₃
  | .cg f a _ es _, C, l, H, Q => (G.mg f = some (.ref a) ∧ FnAt a G.B) ∧ evs d es C l H fun vs H₁ => Calls G d (.fn a) vs [] H₁ Q
  | .cgk f a _ es k e _ _, C, l, H, Q => (G.mg f = some (.ref a) ∧ FnAt a G.B) ∧ evs d es C l H fun vs H₁ => ev d e C l H₁ fun v H₂ => Calls G d (.fn a) vs [(k, v)] H₂ Q
  | .cv i _ es _, C, l, H, Q => match l[i]? with
    | some (some (.clo k cs)) => evs d es C l H fun vs H₁ => Calls G d (.clo k cs) vs [] H₁ Q
    | _ => False
  | .bi b _ es _, C, l, H, Q => evs d es C l H fun vs H₁ => biW b vs H₁ fun v => Q v H₁
  | .lst it m _ _, C, l, H, Q => evI d it C l H fun xs H₁ => xs.length ≤ 2 ^ 20 ∧ newL m xs H₁ Q
  | .srt .., _, _, _, _ => False
  | .mt o m _ es mu _, C, l, H, Q => ev d o C l H fun vo H₁ => mtT m vo H₁ ∧ evs d es C l H₁ fun vs H₂ => mtW m vo vs mu H₂ Q
  | .lm k cap ar b sc _, C, l, H, Q => CloOk G C k none "<lambda>" ar (.expr b) sc cap ∧ (match (capV l cap) with | some vs => (Q (.clo k vs) H) | none => False)
  | .comp c m elt _ it ifs _, C, l, H, Q => evI d it C l H fun xs H₁ => xs.length ≤ 2 ^ 20 ∧
      compGo (fun x H' K => evA d ifs (c.ctx C) (some x :: c.cap.map fun i => (l[i]?).getD none) H' K) (fun x H' K => ev d elt (c.ctx C) (some x :: c.cap.map fun i => (l[i]?).getD none) H' K) (fun acc H' => m = false ∧ Q (.list acc) H') xs [] H₁
  | .fz e, C, l, H, Q => ev d e C l H fun v H₁ => match v with | .ref a => (match H₁.lookup a with | some xs => (Q (.list xs) (delH H₁ a)) | none => False) | _ => False
noncomputable def evs (d : Nat) : MEs → Ctx → Loc → MH → (List MV → MH → Prop) → Prop
  | .nil, C, _, H, Q => Q [] H
  | .cons e es, C, l, H, Q => ev d e C l H fun v H₁ => evs d es C l H₁ fun vs H₂ => Q (v :: vs) H₂
noncomputable def evI (d : Nat) : MIt → Ctx → Loc → MH → (List MV → MH → Prop) → Prop
  | .it e, C, l, H, Q => ev d e C l H fun v H₁ => itW H₁ v Q
  | .rng es _ _, C, l, H, Q => evs d es C l H fun vs H₁ => rngW vs fun xs => Q xs H₁
  | .rev e _ _, C, l, H, Q => ev d e C l H fun v H₁ => match v with | .list xs => (xs.length ≤ 2 ^ 20 ∧ Q xs.reverse H₁) | _ => False
noncomputable def evT (d : Nat) : ME → Ctx → Loc → MH → ((MV → MH → Prop) → Prop) → (Bool → MH → Prop) → Prop
  | .un .Not a _, C, l, H, _, Q => evT d a C l H (ev d a C l H) fun b H' => Q (!b) H'
  | .bo op es _, C, l, H, _, Q => evTs d op es C l H Q
  | .ite t a b _, C, l, H, _, Q => evT d t C l H (ev d t C l H) fun c H₁ => match c with
    | true => evT d a C l H₁ (ev d a C l H₁) Q
    | false => evT d b C l H₁ (ev d b C l H₁) Q
  | .cmp op a b _, C, l, H, _, Q => ev d a C l H fun va H₁ => ev d b C l H₁ fun vb H₂ => cmpW H₂ op va vb fun c => Q c H₂
  | .fz _, _, _, _, _, _ => False
  | _, C, _, H, W, Q => W fun v H₁ => truW H₁ v fun c => Q c H₁
noncomputable def evTs (d : Nat) (op : BoolOp) : MEs → Ctx → Loc → MH → (Bool → MH → Prop) → Prop
  | .nil, C, _, H, Q => Q (op == .And) H
  | .cons e es, C, l, H, Q => evT d e C l H (ev d e C l H) fun c H₁ => match op, c with
    | .And, false => Q false H₁
    | .Or, true => Q true H₁
    | _, _ => evTs d op es C l H₁ Q
noncomputable def evA (d : Nat) : MEs → Ctx → Loc → MH → (Bool → MH → Prop) → Prop
  | .nil, C, _, H, Q => Q true H
  | .cons e es, C, l, H, Q => evT d e C l H (ev d e C l H) fun c H₁ => match c with
    | true => evA d es C l H₁ Q
    | false => Q false H₁
noncomputable def evB (d : Nat) (op : BoolOp) : MEs → Ctx → Loc → MH → (MV → MH → Prop) → Prop
  | .nil, C, _, _, _ => False
  | .cons e .nil, C, l, H, Q => ev d e C l H Q
  | .cons e es, C, l, H, Q => ev d e C l H fun v H₁ => truW H₁ v fun c => match op, c with
    | .And, false => Q v H₁
    | .Or, true => Q v H₁
    | _, _ => evB d op es C l H₁ Q
end
section
variable {G : Stat} {d : Nat} {C : Ctx} {l : Loc} {H : MH} {W : (MV → MH → Prop) → Prop}
theorem ay {u1} : ev G d (.cn u1) C l H Q = (Q .none H) := rfl
theorem di {b u1} : ev G d (.cb b u1) C l H Q = (Q (.bool b) H) := rfl
theorem dk {i u1} : ev G d (.ci i u1) C l H Q = (Q (.int i) H) := rfl
theorem dl {s u1} : ev G d (.cs s u1) C l H Q = (Q (.str s) H) := rfl
theorem ad {i u1} : ev G d (.v i u1) C l H Q = (match l[i]? with
    | some (some v) => Q v H
    | _ => False) := rfl
theorem az {x v u1} : ev G d (.gc x v u1) C l H Q = ((∃ rv, G.mg x = some rv ∧ ∀ X h, VR G X h v rv) ∧ Q v H) := rfl
theorem b0 {op a b u1} : ev G d (.bin op a b u1) C l H Q = (ev G d a C l H fun va H₁ => ev G d b C l H₁ fun vb H₂ => binW op va vb fun v => Q v H₂) := rfl
theorem ba {a n m u1} : ev G d (.rep a n m u1) C l H Q = (ev G d a C l H fun va H₁ => ev G d n C l H₁ fun vn H₂ => match va with | .list xs => (match xs with | x :: q13 => (match q13 with | [] => (match vn with | .int k => ((0 ≤ k ∧ k ≤ 2 ^ 20) ∧ newL m (List.replicate k.toNat x) H₂ Q) | _ => False) | _ => False) | [] => False) | _ => False) := rfl
theorem bb {op a u1} : ev G d (.un op a u1) C l H Q = (ev G d a C l H fun va H₁ => unW op va fun v => Q v H₁) := rfl
theorem ae {op es u1} : ev G d (.bo op es u1) C l H Q = (evB G d op es C l H Q) := rfl
theorem bc {t a b u1} : ev G d (.ite t a b u1) C l H Q = (evT G d t C l H (ev G d t C l H) fun c H₁ => match c with
    | true => ev G d a C l H₁ Q
    | false => ev G d b C l H₁ Q) := rfl
theorem bd {op a b u1} : ev G d (.cmp op a b u1) C l H Q = (ev G d a C l H fun va H₁ => ev G d b C l H₁ fun vb H₂ => cmpW H₂ op va vb fun c => Q (.bool c) H₂) := rfl
theorem bg {m es u1} : ev G d (.ls m es u1) C l H Q = (evs G d es C l H fun vs H₁ => vs.length ≤ 2 ^ 20 ∧ newL m vs H₁ Q) := rfl
theorem bh {es u1} : ev G d (.tp es u1) C l H Q = (evs G d es C l H fun vs H₁ => vs.length ≤ 2 ^ 20 ∧ Q (.tup vs) H₁) := rfl
theorem bj {a i u1} : ev G d (.ix a i u1) C l H Q = (ev G d a C l H fun va H₁ => ev G d i C l H₁ fun vi H₂ => ixW H₂ va vi fun v => Q v H₂) := rfl
theorem bk {a lo u1 u2} : ev G d (.slL a lo u1 u2) C l H Q = (ev G d a C l H fun va H₁ => ev G d lo C l H₁ fun vl H₂ => slW H₂ va vl .none fun v => Q v H₂) := rfl
theorem af {a hi u1 u2} : ev G d (.slU a hi u1 u2) C l H Q = (ev G d a C l H fun va H₁ => ev G d hi C l H₁ fun vu H₂ => slW H₂ va .none vu fun v => Q v H₂) := rfl
theorem bl {a lo hi u1 u2} : ev G d (.slB a lo hi u1 u2) C l H Q = (ev G d a C l H fun va H₁ => ev G d lo C l H₁ fun vl H₂ => ev G d hi C l H₂ fun vu H₃ => slW H₃ va vl vu fun v => Q v H₃) := rfl
theorem ag {f a u1 es u2} : ev G d (.cg f a u1 es u2) C l H Q = ((G.mg f = some (.ref a) ∧ FnAt a G.B) ∧ evs G d es C l H fun vs H₁ => Calls G d (.fn a) vs [] H₁ Q) := rfl
theorem bn {f a u1 es k e u2 u3} : ev G d (.cgk f a u1 es k e u2 u3) C l H Q = ((G.mg f = some (.ref a) ∧ FnAt a G.B) ∧ evs G d es C l H fun vs H₁ => ev G d e C l H₁ fun v H₂ => Calls G d (.fn a) vs [(k, v)] H₂ Q) := rfl
theorem bp {i u1 es u2} : ev G d (.cv i u1 es u2) C l H Q = (match l[i]? with
    | some (some (.clo k cs)) => evs G d es C l H fun vs H₁ => Calls G d (.clo k cs) vs [] H₁ Q
    | _ => False) := rfl
theorem br {b u1 es u2} : ev G d (.bi b u1 es u2) C l H Q = (evs G d es C l H fun vs H₁ => biW b vs H₁ fun v => Q v H₁) := rfl
theorem bs {it m u1 u2} : ev G d (.lst it m u1 u2) C l H Q = (evI G d it C l H fun xs H₁ => xs.length ≤ 2 ^ 20 ∧ newL m xs H₁ Q) := rfl
theorem bt {o m u1 es mu u2} : ev G d (.mt o m u1 es mu u2) C l H Q = (ev G d o C l H fun vo H₁ => mtT m vo H₁ ∧ evs G d es C l H₁ fun vs H₂ => mtW m vo vs mu H₂ Q) := rfl
theorem ah {k cap ar b sc u1} : ev G d (.lm k cap ar b sc u1) C l H Q = (CloOk G C k none "<lambda>" ar (.expr b) sc cap ∧ (match (capV l cap) with | some vs => (Q (.clo k vs) H) | none => False)) := rfl
theorem ai {c m elt u1 it ifs u2} : ev G d (.comp c m elt u1 it ifs u2) C l H Q = (evI G d it C l H fun xs H₁ => xs.length ≤ 2 ^ 20 ∧
      compGo (fun x H' K => evA G d ifs (c.ctx C) (some x :: c.cap.map fun i => (l[i]?).getD none) H' K) (fun x H' K => ev G d elt (c.ctx C) (some x :: c.cap.map fun i => (l[i]?).getD none) H' K) (fun acc H' => m = false ∧ Q (.list acc) H') xs [] H₁) := rfl
theorem bv {e} : ev G d (.fz e) C l H Q = (ev G d e C l H fun v H₁ => match v with | .ref a => (match H₁.lookup a with | some xs => (Q (.list xs) (delH H₁ a)) | none => False) | _ => False) := rfl
theorem aj : evs G d (.nil) C l H Q = (Q [] H) := rfl
theorem bw {e es} : evs G d (.cons e es) C l H Q = (ev G d e C l H fun v H₁ => evs G d es C l H₁ fun vs H₂ => Q (v :: vs) H₂) := rfl
theorem ab {e} : evI G d (.it e) C l H Q = (ev G d e C l H fun v H₁ => itW H₁ v Q) := rfl
theorem ak {es u1 u2} : evI G d (.rng es u1 u2) C l H Q = (evs G d es C l H fun vs H₁ => rngW vs fun xs => Q xs H₁) := rfl
theorem bx {e u1 u2} : evI G d (.rev e u1 u2) C l H Q = (ev G d e C l H fun v H₁ => match v with | .list xs => (xs.length ≤ 2 ^ 20 ∧ Q xs.reverse H₁) | _ => False) := rfl
theorem bz {a u1} : evT G d (.un .Not a u1) C l H W Q = (evT G d a C l H (ev G d a C l H) fun b H' => Q (!b) H') := rfl
theorem al {op es u1} : evT G d (.bo op es u1) C l H W Q = (evTs G d op es C l H Q) := rfl
theorem c6 {t a b u1} : evT G d (.ite t a b u1) C l H W Q = (evT G d t C l H (ev G d t C l H) fun c H₁ => match c with
    | true => evT G d a C l H₁ (ev G d a C l H₁) Q
    | false => evT G d b C l H₁ (ev G d b C l H₁) Q) := rfl
theorem am {op a b u1} : evT G d (.cmp op a b u1) C l H W Q = (ev G d a C l H fun va H₁ => ev G d b C l H₁ fun vb H₂ => cmpW H₂ op va vb fun c => Q c H₂) := rfl
theorem tw {u1} : evT G d (.fz u1) C l H W Q = (False) := rfl
theorem yo {u1} : evT G d (.cn u1) C l H W Q = (W fun v H₁ => truW H₁ v fun c => Q c H₁) := rfl
theorem yp {u1 u2} : evT G d (.cb u1 u2) C l H W Q = (W fun v H₁ => truW H₁ v fun c => Q c H₁) := rfl
theorem yq {u1 u2} : evT G d (.ci u1 u2) C l H W Q = (W fun v H₁ => truW H₁ v fun c => Q c H₁) := rfl
theorem yr {u1 u2} : evT G d (.cs u1 u2) C l H W Q = (W fun v H₁ => truW H₁ v fun c => Q c H₁) := rfl
theorem dn {u1 u2} : evT G d (.v u1 u2) C l H W Q = (W fun v H₁ => truW H₁ v fun c => Q c H₁) := rfl
theorem yt {u1 u2 u3} : evT G d (.gc u1 u2 u3) C l H W Q = (W fun v H₁ => truW H₁ v fun c => Q c H₁) := rfl
theorem dp {u1 u2 u3 u4} : evT G d (.bin u1 u2 u3 u4) C l H W Q = (W fun v H₁ => truW H₁ v fun c => Q c H₁) := rfl
theorem yu {u1 u2 u3 u4} : evT G d (.rep u1 u2 u3 u4) C l H W Q = (W fun v H₁ => truW H₁ v fun c => Q c H₁) := rfl
theorem yv {u1 u2 u3} : evT G d (.ls u1 u2 u3) C l H W Q = (W fun v H₁ => truW H₁ v fun c => Q c H₁) := rfl
theorem yw {u1 u2} : evT G d (.tp u1 u2) C l H W Q = (W fun v H₁ => truW H₁ v fun c => Q c H₁) := rfl
theorem dq {u1 u2 u3} : evT G d (.ix u1 u2 u3) C l H W Q = (W fun v H₁ => truW H₁ v fun c => Q c H₁) := rfl
theorem dr {u1 u2 u3 u4} : evT G d (.slL u1 u2 u3 u4) C l H W Q = (W fun v H₁ => truW H₁ v fun c => Q c H₁) := rfl
theorem c7 {u1 u2 u3 u4} : evT G d (.slU u1 u2 u3 u4) C l H W Q = (W fun v H₁ => truW H₁ v fun c => Q c H₁) := rfl
theorem du {u1 u2 u3 u4 u5} : evT G d (.slB u1 u2 u3 u4 u5) C l H W Q = (W fun v H₁ => truW H₁ v fun c => Q c H₁) := rfl
theorem dw {u1 u2 u3 u4 u5} : evT G d (.cg u1 u2 u3 u4 u5) C l H W Q = (W fun v H₁ => truW H₁ v fun c => Q c H₁) := rfl
theorem yx {u1 u2 u3 u4 u5 u6 u7 u8} : evT G d (.cgk u1 u2 u3 u4 u5 u6 u7 u8) C l H W Q = (W fun v H₁ => truW H₁ v fun c => Q c H₁) := rfl
theorem dx {u1 u2 u3 u4} : evT G d (.cv u1 u2 u3 u4) C l H W Q = (W fun v H₁ => truW H₁ v fun c => Q c H₁) := rfl
theorem dy {u1 u2 u3 u4} : evT G d (.bi u1 u2 u3 u4) C l H W Q = (W fun v H₁ => truW H₁ v fun c => Q c H₁) := rfl
theorem yy {u1 u2 u3 u4} : evT G d (.lst u1 u2 u3 u4) C l H W Q = (W fun v H₁ => truW H₁ v fun c => Q c H₁) := rfl
theorem yz {u1 u2 u3 u4 u5 u6} : evT G d (.srt u1 u2 u3 u4 u5 u6) C l H W Q = (W fun v H₁ => truW H₁ v fun c => Q c H₁) := rfl
theorem dz {u1 u2 u3 u4 u5 u6} : evT G d (.mt u1 u2 u3 u4 u5 u6) C l H W Q = (W fun v H₁ => truW H₁ v fun c => Q c H₁) := rfl
theorem z0 {u1 u2 u3 u4 u5 u6} : evT G d (.lm u1 u2 u3 u4 u5 u6) C l H W Q = (W fun v H₁ => truW H₁ v fun c => Q c H₁) := rfl
theorem z4 {u1 u2 u3 u4 u5 u6 u7} : evT G d (.comp u1 u2 u3 u4 u5 u6 u7) C l H W Q = (W fun v H₁ => truW H₁ v fun c => Q c H₁) := rfl
theorem ao {op} : evTs G d op (.nil) C l H Q = (Q (op == .And) H) := rfl
theorem ap {e es} {op} : evTs G d op (.cons e es) C l H Q = (evT G d e C l H (ev G d e C l H) fun c H₁ => match op, c with
    | .And, false => Q false H₁
    | .Or, true => Q true H₁
    | _, _ => evTs G d op es C l H₁ Q) := rfl
theorem c8 : evA G d (.nil) C l H Q = (Q true H) := rfl
theorem c9 {e es} : evA G d (.cons e es) C l H Q = (evT G d e C l H (ev G d e C l H) fun c H₁ => match c with
    | true => evA G d es C l H₁ Q
    | false => Q false H₁) := rfl
theorem ce {op} : evB G d op (.nil) C l H Q = (False) := rfl
theorem aq {e} {op} : evB G d op (.cons e .nil) C l H Q = (ev G d e C l H Q) := rfl
theorem au {e e₂ es} {op} : evB G d op (.cons e (.cons e₂ es)) C l H Q = (ev G d e C l H fun v H₁ => truW H₁ v fun c => match op, c with
    | .And, false => Q v H₁
    | .Or, true => Q v H₁
    | _, _ => evB G d op (.cons e₂ es) C l H₁ Q) := rfl
end
end Mine
namespace Mine
variable {G : Stat}
theorem KeepE.refl (Y : List Addr) (h : Heap) : KeepE Y h h := fun _ _ _ e => e
theorem KeepE.toKeep {Y X : List Addr} {h h' : Heap} (k : KeepE Y h h') (s : ∀ a ∈ Y, a ∈ X) : Keep X h h' := fun a o hx _ e => k a o (fun m => hx (s a m)) e
theorem KeepE.mono {Y Y' : List Addr} {h h' : Heap} (k : KeepE Y h h') (s : ∀ a ∈ Y, a ∈ Y') : KeepE Y' h h' := fun a o hx e => k a o (fun m => hx (s a m)) e
theorem some_none {h : Heap} {a : Addr} (x : ∃ o, h.get? a = some o) (y : h.get? a = none) : False := by obtain ⟨o, e⟩ := x; rw [y] at e; cases e
section
variable {Z : List Addr} {H H' H₁ H₂ : MH} {s s' s₁ s₂ : Shared} {h h' : Heap}
theorem Inv.key_at (I : Inv G Z H h) {a : Addr} (m : a ∈ keys H) : ∃ o, h.get? a = some o := by
  obtain ⟨p, hp, rfl⟩ := List.mem_map.mp m
  obtain ⟨n, vs, g, _⟩ := I.cells p.1 p.2 hp
  exact ⟨_, g⟩
theorem Inv.x_at (I : Inv G Z H h) {a : Addr} (m : a ∈ keys H ++ Z) : ∃ o, h.get? a = some o := by
  rcases List.mem_append.mp m with m | m
  · exact I.key_at m
  · exact I.lt a m
theorem Inv.off (I : Inv G Z H h) {a : Addr} (e : h.get? a = none) : a ∉ keys H ++ Z := fun m => some_none (I.x_at m) e
theorem Inv.y_sub (I : Inv G Z H h) : ∀ a ∈ keys H ++ G.TP, a ∈ keys H ++ Z := fun a m => by
  rcases List.mem_append.mp m with m | m
  · exact List.mem_append_left _ m
  · exact List.mem_append_right _ (I.tp a m)
theorem Tr.xsub (T : Tr G Z H s H' s') : Sub s.heap (keys H' ++ Z) (keys H ++ Z) := fun a m => by
  rcases List.mem_append.mp m with m | m
  · rcases T.sub a m with q | q
    · exact .inl (List.mem_append_left _ q)
    · exact .inr q
  · exact .inl (List.mem_append_right _ m)
theorem Tr.kp (I : Inv G Z H s.heap) (T : Tr G Z H s H' s') : Keep (keys H ++ Z) s.heap s'.heap := T.keep.toKeep I.y_sub
theorem Tr.vr (I : Inv G Z H s.heap) (T : Tr G Z H s H' s') {m : MV} {v : Value} (r : VR G (keys H ++ Z) s.heap m v) : VR G (keys H' ++ Z) s'.heap m v := VR.keep (T.kp I) T.xsub m v r
theorem Tr.vrs (I : Inv G Z H s.heap) (T : Tr G Z H s H' s') {m : List MV} {v : List Value} (r : VRs G (keys H ++ Z) s.heap m v) : VRs G (keys H' ++ Z) s'.heap m v := VRs.keep (T.kp I) T.xsub m v r
theorem Tr.trans (I : Inv G Z H s.heap) (T : Tr G Z H s H₁ s₁) (U : Tr G Z H₁ s₁ H₂ s₂) : Tr G Z H s H₂ s₂ where
  inv := U.inv
  keep := fun a o m e => U.keep a o (fun q => by
    rcases List.mem_append.mp q with q | q
    · rcases T.sub a q with q | q
      · exact m (List.mem_append_left _ q)
      · rw [q] at e; cases e
    · exact m (List.mem_append_right _ q)) (T.keep a o m e)
  sub := fun a m => by
    rcases U.sub a m with q | q
    · exact T.sub a q
    · by_cases hk : a ∈ keys H
      · exact .inl hk
      · refine .inr ?_
        cases e : s.heap.get? a with
        | none => rfl
        | some o =>
          by_cases ht : a ∈ G.TP
          · obtain ⟨t, ht', rfl⟩ := List.mem_map.mp ht
            obtain ⟨ps, g, _⟩ := T.inv.tabs t ht'
            rw [q] at g; cases g
          · have := T.keep a o (fun m => by rcases List.mem_append.mp m with m | m <;> contradiction) e
            rw [q] at this; cases this
  gens := U.gens.trans T.gens
  os := U.os.trans T.os
theorem Tr.toks (I : Inv G Z H s.heap) (k : Tok) : Tr G Z H s H { s with toks := k } := ⟨I, KeepE.refl _ _, fun _ m => .inl m, rfl, rfl⟩
theorem Tr.refl (I : Inv G Z H s.heap) : Tr G Z H s H s := ⟨I, KeepE.refl _ _, fun _ m => .inl m, rfl, rfl⟩
abbrev Grew (h h' : Heap) : Prop := ∀ a o, h.get? a = some o → h'.get? a = some o
theorem Inv.grow (I : Inv G Z H h) (k : Grew h h') : Inv G Z H h' where
  keep := fun a o e => k a o (I.keep a o e)
  base := I.base
  tabs := fun t ht => by
    obtain ⟨ps, g, t1, t2⟩ := I.tabs t ht
    exact ⟨ps, k _ _ g, t1, fun pos c' e => let ⟨c, ec, hc, rc⟩ := t2 pos c' e; ⟨c, ec, hc, rc.keeps k⟩⟩
  tp := I.tp
  tpk := I.tpk
  nd := I.nd
  cells := fun a xs m => by
    obtain ⟨n, vs, g, r⟩ := I.cells a xs m
    exact ⟨n, vs, k _ _ g, VRs.keep (fun a o _ _ e => k a o e) (Sub.refl _ _) _ _ r⟩
  lt := fun a m => let ⟨o, e⟩ := I.lt a m; ⟨o, k a o e⟩
theorem Tr.grow (I : Inv G Z H s.heap) (k : Grew s.heap s'.heap) (hg : (s'.gens, s'.drawn) = (s.gens, s.drawn)) (ho : s'.os = s.os) : Tr G Z H s H s' :=
  ⟨I.grow k, fun a o _ e => k a o e, fun _ m => .inl m, hg, ho⟩
theorem Tr.push (I : Inv G Z H s.heap) (o : Obj) (k : Tok) : Tr G Z H s H { s with heap := s.heap.push o, toks := k } :=
  Tr.grow I (fun a o' e => Heap.get?_push_of_some o e) rfl rfl
theorem Grew.push (h : Heap) (o : Obj) : Grew h (h.push o) := fun a o' e => Heap.get?_push_of_some o e
theorem fresh_size (h : Heap) : h.get? h.objs.size = none := Heap.get?_none_of_le (Nat.le_refl _)
theorem Inv.cons (I : Inv G Z H h) (k : Grew h h') {D : Addr} {vs : Array Value} {n : Nat} {ms : List MV} (hD : h.get? D = none)
    (g : h'.get? D = some (lobj vs n)) (r : VRs G (keys H ++ Z) h ms vs.toList) : Inv G Z ((D, ms) :: H) h' := by
  have sb : Sub h (keys ((D, ms) :: H) ++ Z) (keys H ++ Z) := fun a m => by
    rcases List.mem_cons.mp (show a ∈ D :: (keys H ++ Z) from m) with q | q
    · exact .inr (q ▸ hD)
    · exact .inl q
  have kp : Keep (keys H ++ Z) h h' := fun a o _ _ e => k a o e
  have hDn := I.off hD
  refine ⟨fun a o e => k a o (I.keep a o e), fun a o e m => ?_, fun t ht => ?_, I.tp, fun a m q => ?_, ?_, fun a xs m => ?_, fun a m => let ⟨o, e⟩ := I.lt a m; ⟨o, k a o e⟩⟩
  · rcases sb a m with q | q
    · exact I.base a o e q
    · have := I.keep a o e; rw [q] at this; cases this
  · obtain ⟨ps, g, t1, t2⟩ := I.tabs t ht
    refine ⟨ps, k _ _ g, t1, fun pos c' e => ?_⟩
    obtain ⟨c, ec, hc, rc⟩ := t2 pos c' e
    refine ⟨c, ec, ?_, rc.keeps k⟩
    obtain ⟨c₂, o, _, _, e2, g2, _⟩ := rc
    cases e2
    exact sb.not hc g2
  · rcases List.mem_cons.mp (show a ∈ D :: keys H from m) with e | e
    · exact some_none (I.lt a q) (e ▸ hD)
    · exact I.tpk a e q
  · exact List.nodup_cons.mpr ⟨fun m => hDn (List.mem_append_left _ m), I.nd⟩
  · rcases List.mem_cons.mp m with e | m
    · cases e
      exact ⟨n, vs, g, VRs.keep kp sb _ _ r⟩
    · obtain ⟨n', vs', g', r'⟩ := I.cells a xs m
      exact ⟨n', vs', k _ _ g', VRs.keep kp sb _ _ r'⟩
theorem newL_pv (I : Inv G Z H s.heap) {m : Bool} {ms : List MV} {Q : MV → MH → Prop} {D : Addr} {vs : Array Value} {n : Nat}
    (k : Grew s.heap s'.heap) (hg : (s'.gens, s'.drawn) = (s.gens, s.drawn)) (ho : s'.os = s.os) (hD : s.heap.get? D = none)
    (g : s'.heap.get? D = some (lobj vs n)) (r : VRs G (keys H ++ Z) s.heap ms vs.toList) (hq : newL m ms H Q) : PV G Z H s Q (.ref D) s' := by
  have hn := I.off hD
  cases m with
  | false =>
    refine ⟨_, _, hq, Tr.grow I k hg ho, ?_⟩
    unfold VR
    exact ⟨D, n, vs, rfl, hn, g, VRs.keep (fun a o _ _ e => k a o e) (Sub.refl _ _) _ _ r⟩
  | true =>
    have hDk : D ∉ keys H := fun m => hn (List.mem_append_left _ m)
    refine ⟨_, _, hq D hDk, ⟨I.cons k hD g r, fun a o _ e => k a o e, fun a m => ?_, hg, ho⟩, ?_⟩
    · rcases List.mem_cons.mp (show a ∈ D :: keys H from m) with e | e
      · exact .inr (e ▸ hD)
      · exact .inl e
    · unfold VR; rfl
theorem PV.mono {Q Q' : MV → MH → Prop} {v : Value} (h : PV G Z H s Q v s') (q : ∀ m H', Q m H' → Q' m H') : PV G Z H s Q' v s' := let ⟨m, H', a, b⟩ := h; ⟨m, H', q _ _ a, b⟩
theorem PV.after {Q : MV → MH → Prop} {v : Value} (I : Inv G Z H s.heap) (T : Tr G Z H s H₁ s₁) (h : PV G Z H₁ s₁ Q v s₂) : PV G Z H s Q v s₂ := let ⟨m, H', a, U, r⟩ := h; ⟨m, H', a, T.trans I U, r⟩
theorem PVs.after {Q : List MV → MH → Prop} {v : List Value} (I : Inv G Z H s.heap) (T : Tr G Z H s H₁ s₁) (h : PVs G Z H₁ s₁ Q v s₂) : PVs G Z H s Q v s₂ := let ⟨m, H', a, U, r⟩ := h; ⟨m, H', a, T.trans I U, r⟩
theorem PV.int (I : Inv G Z H s.heap) {Q : MV → MH → Prop} {i : Int} {t k : Tok} (h : Q (.int i) H) : PV G Z H s Q (.int i t) { s with toks := k } := ⟨_, _, h, Tr.toks I k, by unfold VR; exact ⟨t, rfl⟩⟩
theorem PV.str (I : Inv G Z H s.heap) {Q : MV → MH → Prop} {x : Str} {t k : Tok} (h : Q (.str x) H) : PV G Z H s Q (.str x t) { s with toks := k } := ⟨_, _, h, Tr.toks I k, by unfold VR; exact ⟨t, rfl⟩⟩
theorem PV.bool (I : Inv G Z H s.heap) {Q : MV → MH → Prop} {b : Bool} {k : Tok} (h : Q (.bool b) H) : PV G Z H s Q (.bool b) { s with toks := k } := ⟨_, _, h, Tr.toks I k, by unfold VR; rfl⟩
theorem PV.none (I : Inv G Z H s.heap) {Q : MV → MH → Prop} {k : Tok} (h : Q .none H) : PV G Z H s Q .none { s with toks := k } := ⟨_, _, h, Tr.toks I k, by unfold VR; rfl⟩
end
structure FP where
  L : Addr
  nc : List Addr
  cc : List Addr
  fc : List Addr
structure FR (G : Stat) (C : Ctx) (env : Env) (F : FP) (Z : List Addr) (l : Loc) (H : MH) (h : Heap) : Prop where
  kind : env.scope.kind = .function
  locals : env.locals = F.L
  globals : env.globals = mainGlobals
  builtins : env.builtins = builtinsNs
  code : ∀ c, C.code = some c → env.code = .ref c
  qual : env.qual = C.qual
  len : l.length = C.slots.length
  nd : (C.slots.map (·.1)).Nodup
  ns : ∃ m, h.Ns F.L m ∧ ∀ (i : Nat) (x : Str), C.slots[i]? = some (x, SK.loc) → env.kindOf x = some .local ∧ ∀ v, l[i]? = some (some v) → ∃ rv, m x = some rv ∧ VR G (keys H ++ Z) h v rv
  cell : ∀ (i : Nat) (x : Str) (k : SK), C.slots[i]? = some (x, k) → k = .nc ∨ k = .cc → env.kindOf x = some .cell ∧ ∃ c, env.cells.lookup x = some c ∧ (k = .nc → c ∈ F.nc) ∧ (k = .cc → c ∈ F.cc) ∧
    ∃ orv, h.IsCell c orv ∧ (∀ v, l[i]? = some (some v) → ∃ rv, orv = some rv ∧ VR G (keys H ++ Z) h v rv) ∧ (k = .cc → l[i]? = some none → orv = none)
  free : ∀ (i : Nat) (x : Str), C.slots[i]? = some (x, SK.fr) → (env.kindOf x = some .free ∨ env.kindOf x = some .cell) ∧ ∀ v, l[i]? = some (some v) → ∃ c rv, env.cells.lookup x = some c ∧ c ∉ keys H ++ G.TP ∧ c ≠ F.L ∧ c ∉ F.nc ∧ c ∉ F.cc ∧ h.IsCell c (some rv) ∧
    VR G (keys H ++ Z) h v rv
  glob : ∀ x ∈ C.globs, env.kindOf x = some .globalImplicit
  dbg : ∀ x ∈ C.slots.map (·.1) ++ C.globs, (x == ("__debug__" : Str)) = false
  cls : ∀ x ∈ C.slots.map (·.1), (x == ("__classdict__" : Str)) = false
  inj : ∀ (i j : Nat) (x y : Str) (k k' : SK) (c : Addr), C.slots[i]? = some (x, k) → C.slots[j]? = some (y, k') → (k = .nc ∨ k = .cc) → (k' = .nc ∨ k' = .cc) → env.cells.lookup x = some c → env.cells.lookup y = some c → x = y
  own : ∀ a ∈ F.L :: F.nc ++ F.cc, a ∉ keys H ++ G.TP
  apart : F.L ∉ F.nc ++ F.cc ∧ ∀ a ∈ F.nc, a ∉ F.cc
  z : ∀ a ∈ F.L :: F.nc, a ∈ Z
  zc : ∀ a ∈ F.cc, a ∉ Z
  old : ∀ a ∈ F.L :: F.nc ++ F.cc, G.B.get? a = none
  lt : ∀ a ∈ F.L :: F.nc ++ F.cc, ∃ o, h.get? a = some o
  fro : ∀ (i : Nat) (x : Str) (c : Addr), C.slots[i]? = some (x, SK.fr) → env.cells.lookup x = some c → c ∈ F.fc
  frx : ∀ (i : Nat) (x : Str), C.slots[i]? = some (x, SK.fr) → ∃ c, env.cells.lookup x = some c
  fok : ∀ a ∈ F.fc, a ∉ keys H ++ G.TP
  frl : ∀ a ∈ F.fc, ∃ o, h.get? a = some o
theorem FR.map {C : Ctx} {env : Env} {F : FP} {Z Z' : List Addr} {l : Loc} {H H' : MH} {h h' : Heap} (R : FR G C env F Z l H h) (up : ∀ {m : MV} {v : Value}, VR G (keys H ++ Z) h m v → VR G (keys H' ++ Z') h' m v)
    (kf : ∀ a, a ∈ F.L :: F.nc ++ F.cc ∨ a ∈ F.fc → ∀ o, h.get? a = some o → h'.get? a = some o) (off : ∀ a, a ∈ F.L :: F.nc ++ F.cc ∨ a ∈ F.fc → a ∉ keys H' ++ G.TP) (z : ∀ a ∈ F.L :: F.nc, a ∈ Z') (zc : ∀ a ∈ F.cc, a ∉ Z') : FR G C env F Z' l H' h' := by
  have lt : ∀ {a : Addr}, a ∈ F.L :: F.nc ++ F.cc ∨ a ∈ F.fc → (∃ o, h.get? a = some o) → ∃ o, h'.get? a = some o := fun m ⟨o, e⟩ => ⟨o, kf _ m o e⟩
  refine ⟨R.kind, R.locals, R.globals, R.builtins, R.code, R.qual, R.len, R.nd, ?_, fun i x k e hk => ?_, fun i x e => ⟨(R.free i x e).1, fun v ev => ?_⟩, R.glob, R.dbg, R.cls, R.inj, fun a m => off a (.inl m), R.apart, z, zc, R.old, fun a m => lt (.inl m) (R.lt a m), R.fro, R.frx, fun a m => off a (.inr m), fun a m => lt (.inr m) (R.frl a m)⟩
  · obtain ⟨m, ⟨o, es, ep, g, r⟩, hv⟩ := R.ns
    exact ⟨m, ⟨o, es, ep, kf _ (.inl (List.mem_append_left _ (.head _))) _ g, r⟩, fun i x e => ⟨(hv i x e).1, fun v ev => let ⟨rv, e1, e2⟩ := (hv i x e).2 v ev; ⟨rv, e1, up e2⟩⟩⟩
  · obtain ⟨kk, c, ec, h1, h2, orv, ⟨o, g, d⟩, hv, hn⟩ := R.cell i x k e hk
    have hc : c ∈ F.L :: F.nc ++ F.cc := hk.elim (fun e => List.mem_append_left _ (.tail _ (h1 e))) fun e => List.mem_append_right _ (h2 e)
    exact ⟨kk, c, ec, h1, h2, orv, ⟨o, kf _ (.inl hc) _ g, d⟩, fun v ev => let ⟨rv, e1, e2⟩ := hv v ev; ⟨rv, e1, up e2⟩, hn⟩
  · obtain ⟨c, rv, ec, hc, h1, h2, h3, ⟨o, g, d⟩, r⟩ := (R.free i x e).2 v ev
    have m := R.fro i x c e ec
    exact ⟨c, rv, ec, off c (.inr m), h1, h2, h3, ⟨o, kf c (.inr m) o g, d⟩, up r⟩
theorem FR.offA {C : Ctx} {env : Env} {F : FP} {Z : List Addr} {l : Loc} {H : MH} {h : Heap} (R : FR G C env F Z l H h) (a : Addr) (m : a ∈ F.L :: F.nc ++ F.cc ∨ a ∈ F.fc) : a ∉ keys H ++ G.TP := m.elim (R.own a) (R.fok a)
theorem FR.tr {C : Ctx} {env : Env} {F : FP} {Z : List Addr} {l : Loc} {H H' : MH} {s s' : Shared} (I : Inv G Z H s.heap) (T : Tr G Z H s H' s') (R : FR G C env F Z l H s.heap) :
    FR G C env F Z l H' s'.heap :=
  R.map (T.vr I) (fun a m o e => T.keep a o (R.offA a m) e) (fun a m q => (List.mem_append.mp q).elim (fun q => (T.sub a q).elim (fun q => R.offA a m (List.mem_append_left _ q)) (some_none (m.elim (R.lt a) (R.frl a)))) fun q => R.offA a m (List.mem_append_right _ q)) R.z R.zc
end Mine
namespace Mine
variable {G : Stat}
theorem vr_none {X h} {v : Value} (r : VR G X h .none v) : v = .none := by unfold VR at r; exact r
theorem vr_bool {X h b} {v : Value} (r : VR G X h (.bool b) v) : v = .bool b := by unfold VR at r; exact r
theorem vr_int {X h i} {v : Value} (r : VR G X h (.int i) v) : ∃ t, v = .int i t := by unfold VR at r; exact r
theorem vr_str {X h x} {v : Value} (r : VR G X h (.str x) v) : ∃ t, v = .str x t := by unfold VR at r; exact r
theorem vr_ref {X h a} {v : Value} (r : VR G X h (.ref a) v) : v = .ref a := by unfold VR at r; exact r
theorem vr_list {X h xs} {v : Value} (r : VR G X h (.list xs) v) : ∃ a n vs, v = .ref a ∧ a ∉ X ∧ h.get? a = some (lobj vs n) ∧ VRs G X h xs vs.toList := by unfold VR at r; exact r
theorem vr_tup {X h xs} {v : Value} (r : VR G X h (.tup xs) v) : ∃ a n vs, v = .ref a ∧ a ∉ X ∧ h.get? a = some (tobj vs n) ∧ VRs G X h xs vs.toList := by unfold VR at r; exact r
theorem vr_int' {X h i t} : VR G X h (.int i) (.int i t) := by unfold VR; exact ⟨t, rfl⟩
theorem vr_str' {X h i t} : VR G X h (.str i) (.str i t) := by unfold VR; exact ⟨t, rfl⟩
theorem vrs_nil {X h} {vs : List Value} (r : VRs G X h [] vs) : vs = [] := by unfold VRs at r; exact r
theorem vrs_nil' {X h} : VRs G X h [] [] := by unfold VRs; rfl
theorem vrs_cons {X h m ms} {vs : List Value} (r : VRs G X h (m :: ms) vs) : ∃ v q, vs = v :: q ∧ VR G X h m v ∧ VRs G X h ms q := by unfold VRs at r; exact r
theorem vrs_cons' {X h m ms v} {vs : List Value} (a : VR G X h m v) (b : VRs G X h ms vs) : VRs G X h (m :: ms) (v :: vs) := by unfold VRs; exact ⟨v, vs, rfl, a, b⟩
theorem vrs_len {X h} : ∀ {ms : List MV} {vs : List Value}, VRs G X h ms vs → vs.length = ms.length
  | [], _, r => by rw [vrs_nil r]; rfl
  | m :: ms, _, r => by obtain ⟨v, q, rfl, _, b⟩ := vrs_cons r; rw [List.length_cons, List.length_cons, vrs_len b]
theorem vrs_get {X h} : ∀ {ms : List MV} {vs : List Value} {i : Nat} {m : MV}, VRs G X h ms vs → ms[i]? = some m → ∃ v, vs[i]? = some v ∧ VR G X h m v
  | [], _, _, _, _, e => by simp at e
  | m :: ms, _, 0, _, r, e => by obtain ⟨v, q, rfl, a, b⟩ := vrs_cons r; cases e; exact ⟨v, rfl, a⟩
  | m :: ms, _, i + 1, m', r, e => by obtain ⟨v, q, rfl, a, b⟩ := vrs_cons r; exact vrs_get (i := i) (m := m') b e
theorem vrs_append {X h} : ∀ {ms ns : List MV} {vs ws : List Value}, VRs G X h ms vs → VRs G X h ns ws → VRs G X h (ms ++ ns) (vs ++ ws)
  | [], _, _, _, r, q => by rw [vrs_nil r]; exact q
  | m :: ms, _, _, _, r, q => by obtain ⟨v, r', rfl, a, b⟩ := vrs_cons r; exact vrs_cons' a (vrs_append b q)
theorem vrs_take {X h} : ∀ {ms : List MV} {vs : List Value} (n : Nat), VRs G X h ms vs → VRs G X h (ms.take n) (vs.take n)
  | _, _, 0, _ => by simp; exact vrs_nil'
  | [], _, n + 1, r => by rw [vrs_nil r]; exact vrs_nil'
  | m :: ms, _, n + 1, r => by obtain ⟨v, r', rfl, a, b⟩ := vrs_cons r; exact vrs_cons' a (vrs_take n b)
theorem vrs_drop {X h} : ∀ {ms : List MV} {vs : List Value} (n : Nat), VRs G X h ms vs → VRs G X h (ms.drop n) (vs.drop n)
  | _, _, 0, r => by simpa using r
  | [], _, n + 1, r => by rw [vrs_nil r]; exact vrs_nil'
  | m :: ms, _, n + 1, r => by obtain ⟨v, r', rfl, a, b⟩ := vrs_cons r; exact vrs_drop n b
theorem vrs_set {X h} : ∀ {ms : List MV} {vs : List Value} (i : Nat) {m : MV} {v : Value}, VRs G X h ms vs → VR G X h m v → VRs G X h (ms.set i m) (vs.set i v)
  | [], _, _, _, _, r, _ => by rw [vrs_nil r]; exact vrs_nil'
  | m :: ms, _, 0, _, _, r, q => by obtain ⟨v, r', rfl, a, b⟩ := vrs_cons r; exact vrs_cons' q b
  | m :: ms, _, i + 1, _, _, r, q => by obtain ⟨v, r', rfl, a, b⟩ := vrs_cons r; exact vrs_cons' a (vrs_set i b q)
theorem vrs_erase {X h} : ∀ {ms : List MV} {vs : List Value} (i : Nat), VRs G X h ms vs → VRs G X h (ms.eraseIdx i) (vs.eraseIdx i)
  | [], _, _, r => by rw [vrs_nil r]; exact vrs_nil'
  | m :: ms, _, 0, r => by obtain ⟨v, r', rfl, a, b⟩ := vrs_cons r; exact b
  | m :: ms, _, i + 1, r => by obtain ⟨v, r', rfl, a, b⟩ := vrs_cons r; exact vrs_cons' a (vrs_erase i b)
theorem vrs_reverse {X h} : ∀ {ms : List MV} {vs : List Value}, VRs G X h ms vs → VRs G X h ms.reverse vs.reverse
  | [], _, r => by rw [vrs_nil r]; exact vrs_nil'
  | m :: ms, _, r => by
    obtain ⟨v, r', rfl, a, b⟩ := vrs_cons r
    rw [List.reverse_cons, List.reverse_cons]
    exact vrs_append (vrs_reverse b) (vrs_cons' a vrs_nil')
theorem vrs_replicate {X h} {m : MV} {v : Value} (a : VR G X h m v) : ∀ n, VRs G X h (List.replicate n m) (List.replicate n v)
  | 0 => vrs_nil'
  | n + 1 => vrs_cons' a (vrs_replicate a n)
theorem vrs_ints {X h} : ∀ {ms : List MV} {l : List Int} {vs : List Value}, allInt ms = some l → VRs G X h ms vs → IntsAre vs l
  | [], _, _, e, r => by cases e; rw [vrs_nil r]; exact .nil
  | .int i :: ms, l, _, e, r => by
    obtain ⟨v, q, rfl, a, b⟩ := vrs_cons r
    obtain ⟨t, rfl⟩ := vr_int a
    unfold allInt at e
    obtain ⟨l', e', rfl⟩ := Option.map_eq_some_iff.mp e
    exact .cons i t (vrs_ints e' b)
  | .none :: _, _, _, e, _ | .bool _ :: _, _, _, e, _ | .str _ :: _, _, _, e, _ | .list _ :: _, _, _, e, _ | .tup _ :: _, _, _, e, _ | .ref _ :: _, _, _, e, _ | .clo _ _ :: _, _, _, e, _ => by cases e
theorem iW_use {X : List Addr} {h : Heap} {a : MV} {va : Value} {K : Int → Prop} (P : Value → Prop) (r : VR G X h a va) (hk : iW a K) (f : ∀ x t, K x → P (.int x t)) : P va := by
  cases a with
  | int x => obtain ⟨t, rfl⟩ := vr_int r; exact f x t hk
  | none | bool _ | str _ | list _ | tup _ | ref _ | clo _ _ => exact False.elim hk
theorem sW_use {X : List Addr} {h : Heap} {a : MV} {va : Value} {K : Str → Prop} (P : Value → Prop) (r : VR G X h a va) (hk : sW a K) (f : ∀ x t, K x → P (.str x t)) : P va := by
  cases a with
  | str x => obtain ⟨t, rfl⟩ := vr_str r; exact f x t hk
  | none | bool _ | int _ | list _ | tup _ | ref _ | clo _ _ => exact False.elim hk
theorem i2W_use {X : List Addr} {h : Heap} {a b : MV} {va vb : Value} {K : Int → Int → Prop} (P : Value → Value → Prop) (r : VR G X h a va) (q : VR G X h b vb) (hk : i2W a b K) (f : ∀ x y t u, K x y → P (.int x t) (.int y u)) : P va vb :=
  iW_use (fun v => P v vb) r hk fun x t hk => iW_use (P (.int x t)) q hk fun y u hk => f x y t u hk
theorem lW_of {a : MV} {K : List MV → Prop} (hk : lW a K) : ∃ x, a = .list x ∧ K x := by
  cases a with
  | list x => exact ⟨x, rfl, hk⟩
  | none | bool _ | int _ | str _ | tup _ | ref _ | clo _ _ => exact False.elim hk
theorem rW_of {a : MV} {K : Addr → Prop} (hk : rW a K) : ∃ x, a = .ref x ∧ K x := by
  cases a with
  | ref x => exact ⟨x, rfl, hk⟩
  | none | bool _ | int _ | str _ | tup _ | list _ | clo _ _ => exact False.elim hk
theorem orW_of {α : Type} {o : Option α} {K : α → Prop} {E : Prop} (hk : orW o K E) : (∃ x, o = some x ∧ K x) ∨ E := by
  cases o with
  | some x => exact .inl ⟨x, rfl, hk⟩
  | none => exact .inr hk
theorem optW_of {α : Type} {o : Option α} {K : α → Prop} (hk : optW o K) : ∃ x, o = some x ∧ K x := (orW_of hk).resolve_right id
theorem lkW_of {o : Option (List MV)} {K : List MV → Prop} (hk : lkW o K) : ∃ x, o = some x ∧ K x := by
  cases o with
  | some x => exact ⟨x, rfl, hk⟩
  | none => exact False.elim hk
theorem atW_of {H : MH} {a : MV} {K : Addr → List MV → Prop} (hk : atW H a K) : ∃ b xs, a = .ref b ∧ H.lookup b = some xs ∧ K b xs := by
  cases a with
  | ref b => obtain ⟨xs, e, hk⟩ := lkW_of hk; exact ⟨b, xs, rfl, e, hk⟩
  | none | bool _ | int _ | str _ | tup _ | list _ | clo _ _ => exact False.elim hk
theorem acW_use {X : List Addr} {h : Heap} {l : List MV} {vs : List Value} {K : MV → List MV → Prop} (P : List Value → Prop) (r : VRs G X h l vs) (hk : acW l K) (f : ∀ x m v q, VR G X h x v → VRs G X h m q → K x m → P (v :: q)) : P vs := by
  cases l with
  | nil => exact False.elim hk
  | cons x m => obtain ⟨v, q, rfl, a, b⟩ := vrs_cons r; exact f x m v q a b hk
theorem a0W_use {X : List Addr} {h : Heap} {l : List MV} {vs : List Value} {K : Prop} (P : List Value → Prop) (r : VRs G X h l vs) (hk : a0W l K) (f : K → P []) : P vs := by
  cases l with
  | nil => rw [vrs_nil r]; exact f hk
  | cons x m => exact False.elim hk
theorem a1W_use {X : List Addr} {h : Heap} {l : List MV} {vs : List Value} {K : MV → Prop} (P : List Value → Prop) (r : VRs G X h l vs) (hk : a1W l K) (f : ∀ x v, VR G X h x v → K x → P [v]) : P vs :=
  acW_use P r hk fun x m v q a b hk => a0W_use (fun q => P (v :: q)) b hk fun hk => f x v a hk
section
variable {Z : List Addr} {H : MH} {s : Shared} {A : Around} {E : Value → Shared → Prop} {prog : Program} {w : World}
theorem items_at (I : Inv G Z H s.heap) {m : MV} {v : Value} {xs : List MV} (r : VR G (keys H ++ Z) s.heap m v) (e : itemsOf H m = some xs) :
    ∃ a n vs, v = .ref a ∧ s.heap.get? a = some (lobj vs n) ∧ VRs G (keys H ++ Z) s.heap xs vs.toList := by
  cases m with
  | list ys => cases e; obtain ⟨a, n, vs, e1, _, g, q⟩ := vr_list r; exact ⟨a, n, vs, e1, g, q⟩
  | ref a =>
    have ev := vr_ref r
    have hm : (a, xs) ∈ H := by
      have : ∀ {l : MH}, l.lookup a = some xs → (a, xs) ∈ l := by
        intro l
        induction l with
        | nil => intro h; cases h
        | cons p t ih =>
          intro h
          rw [List.lookup_cons] at h
          cases hb : a == p.1 with
          | true => rw [hb] at h; cases h; rw [beq_iff_eq.mp hb]; exact .head _
          | false => rw [hb] at h; exact .tail _ (ih h)
      exact this e
    obtain ⟨n, vs, g, q⟩ := I.cells a xs hm
    exact ⟨a, n, vs, ev, g, q⟩
  | none | bool _ | int _ | str _ | tup _ | clo _ _ => cases e
abbrev PQ (G : Stat) (Z : List Addr) (H : MH) (s : Shared) (K : MV → Prop) : Value → Shared → Prop := PV G Z H s fun v H' => K v ∧ H' = H
theorem pq_int (I : Inv G Z H s.heap) {K : MV → Prop} {i : Int} {t k : Tok} (h : K (.int i)) : PQ G Z H s K (.int i t) { s with toks := k } := PV.int I ⟨h, rfl⟩
theorem pq_str (I : Inv G Z H s.heap) {K : MV → Prop} {i : Str} {t k : Tok} (h : K (.str i)) : PQ G Z H s K (.str i t) { s with toks := k } := PV.str I ⟨h, rfl⟩
theorem rshift_eq (a b : Int) (hb : 0 ≤ b) (hc : b ≥ ((Builtin.Int.intBits a : Nat) : Int)) : a / 2 ^ b.toNat = if a < 0 then -1 else 0 := by
  have hlt : a.natAbs < 2 ^ b.toNat := by
    by_cases h0 : a = 0
    · subst h0; exact Nat.two_pow_pos _
    · have h1 : Builtin.Int.intBits a = a.natAbs.log2 + 1 := by unfold Builtin.Int.intBits; rw [if_neg (by simpa using h0)]
      have h2 : a.natAbs.log2 + 1 ≤ b.toNat := by lia
      exact Nat.lt_of_lt_of_le (Nat.lt_log2_self) (Nat.pow_le_pow_right (by decide) h2)
  have hp : (0 : Int) < 2 ^ b.toNat := Int.pow_pos (by decide)
  have hq : ((2 ^ b.toNat : Nat) : Int) = 2 ^ b.toNat := by simp
  by_cases hn : a < 0
  · rw [if_pos hn]
    have : a = -1 * 2 ^ b.toNat + (a + 2 ^ b.toNat) := by lia
    rw [this, Int.add_comm, Int.add_mul_ediv_right _ _ (Int.ne_of_gt hp), Int.ediv_eq_zero_of_lt (by lia) (by lia)]; rfl
  · rw [if_neg hn]
    exact Int.ediv_eq_zero_of_lt (by lia) (by lia)
theorem mulOk {a b : Int} (h : Builtin.Int.intBits a + Builtin.Int.intBits b ≤ 2 ^ 27) : IntMulOk a b := by
  unfold IntMulOk Builtin.Int.intTooBig bitsLine
  simp only [Bool.and_eq_true, decide_eq_true_eq, not_and]
  intro _ _
  lia
theorem bin_sound (I : Inv G Z H s.heap) {op : Operator} {a b : MV} {va vb : Value} {K : MV → Prop} (ra : VR G (keys H ++ Z) s.heap a va) (rb : VR G (keys H ++ Z) s.heap b vb) (hk : binW op a b K) :
    wpAny (model prog w) A (binaryOp op va vb) (PQ G Z H s K) E s := by
  have i2 : ∀ {op : Operator} {R : Int → Int → Prop}, i2W a b R → (∀ x y t u, R x y → wpAny (model prog w) A (binaryOp op (.int x t) (.int y u)) (PQ G Z H s K) E s) → wpAny (model prog w) A (binaryOp op va vb) (PQ G Z H s K) E s := fun {op R} hk f =>
    i2W_use (fun v u => wpAny (model prog w) A (binaryOp op v u) (PQ G Z H s K) E s) ra rb hk f
  cases op with
  | Add =>
    cases a with
    | int x =>
      obtain ⟨t, rfl⟩ := vr_int ra
      exact iW_use (fun v => wpAny (model prog w) A (binaryOp .Add (.int x t) v) (PQ G Z H s K) E s) rb hk fun y u hk => add_int (pq_int I hk)
    | str x =>
      obtain ⟨t, rfl⟩ := vr_str ra
      exact sW_use (fun v => wpAny (model prog w) A (binaryOp .Add (.str x t) v) (PQ G Z H s K) E s) rb hk fun y u hk => add_str (fun t' k => pq_str I hk.2) (by rw [sizeLine_eq]; exact Nat.le_trans hk.1 (by decide))
    | list x =>
      obtain ⟨y, rfl, hk'⟩ := lW_of hk
      obtain ⟨a1, n1, vs1, rfl, _, g1, q1⟩ := vr_list ra
      obtain ⟨a2, n2, vs2, rfl, _, g2, q2⟩ := vr_list rb
      have l1 := vrs_len q1
      have l2 := vrs_len q2
      rw [Array.length_toList] at l1 l2
      refine concat_meets ⟨_, g1, rfl⟩ ⟨_, g2, rfl⟩ noFill_list_add seq_list_add PySem.F.slot_list_add PySem.F.entry_list_add (PySem.F.args_list_add_2 _ _) (AutoSeq1.list___add___list_list_0 a1 vs1 n1 a2 vs2 n2 (by rw [l1, l2, sizeLine_eq]; exact Nat.le_trans hk'.1 (by decide))) ⟨g1, g2, ?_⟩
      refine newL_pv (m := false) (Q := fun v H' => K v ∧ H' = H) I (fun a o e => Heap.get?_push_of_some _ e) rfl rfl (fresh_size _) (Heap.get?_push_size _ rfl) ?_ ⟨hk'.2, rfl⟩
      rw [Array.toList_append]
      exact vrs_append q1 q2
    | none | bool _ | tup _ | ref _ | clo _ _ => exact False.elim hk
  | Sub => exact i2 hk fun x y t u hk => sub_int (pq_int I hk)
  | Mult => exact i2 hk fun x y t u hk => mul_int (pq_int I hk.2) (mulOk hk.1)
  | FloorDiv => exact i2 hk fun x y t u hk => floordiv_int hk.1.1 (pq_int I hk.2) (.inl hk.1.2)
  | Mod => exact i2 hk fun x y t u hk => mod_int' hk.1 (pq_int I hk.2)
  | Pow =>
    refine i2 hk fun x y t u hk => ?_
    obtain ⟨⟨rfl, h0, h1⟩, hk⟩ := hk
    refine AutoIntOpsIf.pow ?_
    rw [if_pos h0]
    by_cases hy : y = 0
    · subst hy; rw [if_pos (by decide)]; exact pq_int I hk
    · rw [if_neg (by simpa using hy), if_neg (by decide), if_neg (by decide), if_neg]
      · exact pq_int I hk
      · have e : Builtin.Int.intBits 2 = 2 := by decide +kernel
        rw [e]
        unfold Builtin.Int.intTooBig bitsLine
        simp only [decide_eq_true_eq]
        lia
  | LShift => exact i2 hk fun x y t u hk => lshift_int hk.1.1 hk.1.2 (pq_int I hk.2)
  | RShift =>
    refine i2 hk fun x y t u hk => AutoIntOpsIf.rshift ?_
    rw [if_neg (Int.not_lt.mpr hk.1)]
    by_cases hc : y ≥ ((Builtin.Int.intBits x : Nat) : Int)
    · rw [if_pos hc]
      have := rshift_eq x y hk.1 hc
      rw [this] at hk
      exact pq_int I hk.2
    · rw [if_neg hc]
      have e : x.fdiv (2 ^ y.toNat) = x / 2 ^ y.toNat := Int.fdiv_eq_ediv_of_nonneg _ (Int.le_of_lt (Int.pow_pos (by decide)))
      rw [e]
      exact pq_int I hk.2
  | BitAnd => exact i2 hk fun x y t u hk => and_int (pq_int I hk)
  | BitOr => exact i2 hk fun x y t u hk => or_int (pq_int I hk)
  | BitXor => exact i2 hk fun x y t u hk => xor_int (pq_int I hk)
  | Div => exact False.elim hk
  | MatMult => exact False.elim hk
end
end Mine
namespace Mine
variable {G : Stat}
section
variable {Z : List Addr} {H : MH} {s : Shared} {A : Around} {E : Value → Shared → Prop} {prog : Program} {w : World}
abbrev BQ (G : Stat) (Z : List Addr) (H : MH) (s : Shared) (K : Bool → Prop) : Bool → Shared → Prop := fun b s' => K b ∧ Tr G Z H s H s'
abbrev CQ (G : Stat) (Z : List Addr) (H : MH) (s : Shared) (K : Bool → Prop) : Value → Shared → Prop := fun v s' => ∃ b, v = .bool b ∧ K b ∧ Tr G Z H s H s'
theorem szL {n : Nat} (h : n ≤ 2 ^ 20) : n ≤ sizeLine := by rw [sizeLine_eq]; lia
theorem sz63 {n : Nat} (h : n ≤ 2 ^ 20) : (n : Int) < 2 ^ 63 := by lia
theorem un_sound (I : Inv G Z H s.heap) {op : UnaryOp} {a : MV} {va : Value} {K : MV → Prop} (ra : VR G (keys H ++ Z) s.heap a va) (hk : unW op a K) :
    wpAny (model prog w) A (unaryOp op va) (PQ G Z H s K) E s := by
  cases op with
  | USub => exact iW_use (fun v => wpAny (model prog w) A (unaryOp .USub v) (PQ G Z H s K) E s) ra hk fun x t hk => PySem.P.neg_int (pq_int I hk)
  | Invert => exact iW_use (fun v => wpAny (model prog w) A (unaryOp .Invert v) (PQ G Z H s K) E s) ra hk fun x t hk => invert_int (pq_int I hk)
  | Not => exact False.elim hk
  | UAdd => exact False.elim hk
theorem tru_sound (I : Inv G Z H s.heap) {a : MV} {va : Value} {K : Bool → Prop} (ra : VR G (keys H ++ Z) s.heap a va) (hk : truW H a K) :
    wpAny (model prog w) A (truthy va) (BQ G Z H s K) E s := by
  cases a with
  | bool b => rw [vr_bool ra]; exact wpAny_truthy_bool ⟨hk, Tr.refl I⟩
  | int i =>
    obtain ⟨t, rfl⟩ := vr_int ra
    exact PySem.P.truthy_int ⟨hk, Tr.refl I⟩
  | str x =>
    obtain ⟨t, rfl⟩ := vr_str ra
    refine PySem.P.truthy_str (Int.not_le.mpr (sz63 hk.1)) ⟨?_, Tr.toks I _⟩
    have e : ((x.length : Int) != 0) = !(x.length == 0) := by
      cases hx : x.length with
      | zero => rfl
      | succ n => simp; lia
    rw [e]; exact hk.2
  | none => rw [vr_none ra]; exact fun _ _ _ => ⟨hk, Tr.refl I⟩
  | list xs =>
    obtain ⟨a, n, vs, rfl, _, g, q⟩ := vr_list ra
    have l := vrs_len q
    rw [Array.length_toList] at l
    refine wpAny_truthy_list ⟨_, g, rfl, _, rfl⟩ (by rw [l]; exact sz63 hk.1) ⟨?_, Tr.toks I _⟩
    have e : vs.isEmpty = xs.isEmpty := by
      unfold Array.isEmpty
      rw [l]
      cases xs <;> rfl
    rw [e]; exact hk.2
  | tup _ | ref _ | clo _ _ => exact False.elim hk
theorem vrs_strs {X h} : ∀ {ms : List MV} {l : List Str} {vs : List Value}, allStr ms = some l → VRs G X h ms vs → StrsAre vs l
  | [], _, _, e, r => by cases e; rw [vrs_nil r]; exact .nil
  | .str i :: ms, l, _, e, r => by
    obtain ⟨v, q, rfl, a, b⟩ := vrs_cons r
    obtain ⟨t, rfl⟩ := vr_str a
    unfold allStr at e
    obtain ⟨l', e', rfl⟩ := Option.map_eq_some_iff.mp e
    exact .cons i t (vrs_strs e' b)
  | .none :: _, _, _, e, _ | .bool _ :: _, _, _, e, _ | .int _ :: _, _, _, e, _ | .list _ :: _, _, _, e, _ | .tup _ :: _, _, _, e, _ | .ref _ :: _, _, _, e, _ | .clo _ _ :: _, _, _, e, _ => by cases e
theorem any_contains {α : Type} [BEq α] [LawfulBEq α] (l : List α) (x : α) : l.any (· == x) = l.contains x := by
  induction l with
  | nil => rfl
  | cons a l ih => rw [List.any_cons, ih, List.contains_cons, Bool.beq_comm]
theorem in_sound (I : Inv G Z H s.heap) {a b : MV} {va vb : Value} {K : Bool → Prop} (neg : Bool) (ra : VR G (keys H ++ Z) s.heap a va) (rb : VR G (keys H ++ Z) s.heap b vb) (hk : inW H a b fun c => K (c ^^ neg)) :
    wpAny (model prog w) A (compareOp (if neg then .NotIn else .In) va vb) (CQ G Z H s K) E s := by
  have fin : ∀ c, K (c ^^ neg) → CQ G Z H s K (.bool (if neg then !c else c)) s := fun c h => ⟨_, rfl, by cases neg <;> simpa using h, Tr.refl I⟩
  have lst : (optW (itemsOf H b) fun ys => inL ys a fun c => K (c ^^ neg)) → wpAny (model prog w) A (compareOp (if neg then .NotIn else .In) va vb) (CQ G Z H s K) E s := fun hk => by
    obtain ⟨ys, e, hk⟩ := optW_of hk
    obtain ⟨b', n, vs, rfl, g, q⟩ := items_at I rb e
    have hl : s.heap.IsList b' vs.toList.toArray := ⟨_, by simpa using g, rfl, _, rfl⟩
    cases a with
    | str x =>
      obtain ⟨t, rfl⟩ := vr_str ra
      obtain ⟨l, el, hk⟩ := optW_of hk
      have := fin _ hk.2
      cases neg
      · exact in_list_strs hl (vrs_strs el q) (by rw [any_contains]; exact this)
      · exact notin_list_strs hl (vrs_strs el q) (by rw [any_contains]; exact this)
    | int x =>
      obtain ⟨t, rfl⟩ := vr_int ra
      obtain ⟨l, el, hk⟩ := optW_of hk
      have := fin _ hk.2
      cases neg
      · exact in_list_ints hl (vrs_ints el q) (by rw [any_contains]; exact this)
      · exact notin_list_ints hl (vrs_ints el q) (by rw [any_contains]; exact this)
    | none | bool _ | list _ | tup _ | ref _ | clo _ _ => exact False.elim hk
  cases b with
  | str y =>
    obtain ⟨u, rfl⟩ := vr_str rb
    refine sW_use (fun v => wpAny (model prog w) A (compareOp (if neg then .NotIn else .In) v (.str y u)) (CQ G Z H s K) E s) ra hk fun x t hk => ?_
    cases neg
    · exact PySem.P.in_str (fin _ hk)
    · exact PySem.P.notIn_str (fin _ hk)
  | list _ | ref _ => exact lst hk
  | none | bool _ | int _ | tup _ | clo _ _ => exact False.elim hk
theorem readsAll_of_bools {X h} : ∀ {ms : List MV} {l : List Bool} {vs : List Value}, allBool ms = some l → VRs G X h ms vs → ReadsAll h vs (l.map PyData.bool) []
  | [], _, _, e, r => by cases e; rw [vrs_nil r]; exact .nil
  | .bool i :: ms, l, _, e, r => by
    obtain ⟨v, q, rfl, a, b⟩ := vrs_cons r
    rw [vr_bool a]
    unfold allBool at e
    obtain ⟨l', e', rfl⟩ := Option.map_eq_some_iff.mp e
    have := ReadsAll.cons (Reads.bool (h := h) i) (readsAll_of_bools e' b)
    simpa using this
  | .none :: _, _, _, e, _ | .str _ :: _, _, _, e, _ | .int _ :: _, _, _, e, _ | .list _ :: _, _, _, e, _ | .tup _ :: _, _, _, e, _ | .ref _ :: _, _, _, e, _ | .clo _ _ :: _, _, _, e, _ => by cases e
theorem canLayAll0_bools : ∀ ns : List Bool, PyData.canLayAll0 (ns.map PyData.bool) = true
  | [] => by simp [PyData.canLayAll0]
  | n :: r => by simp [PyData.canLayAll0, PyData.canLay0, canLayAll0_bools r]
theorem depthAll_bools : ∀ ns : List Bool, PyData.depthAll (ns.map PyData.bool) ≤ 1
  | [] => by simp [PyData.depthAll]
  | n :: r => by
    have := depthAll_bools r
    simp only [List.map_cons, PyData.depthAll, PyData.depth]
    lia
open PyProof.V PySem.Spec PySem.SeqAt in
theorem shaped_bools (ns : List Bool) : shaped (.list (ns.map PyData.bool)) = true := by
  have h1 := depthAll_bools ns
  have h2 : PyData.depth (.list (ns.map PyData.bool)) ≤ 64 := by simp only [PyData.depth]; lia
  show (PyData.canLay0 (.list (ns.map PyData.bool)) && decide (PyData.depth (.list (ns.map PyData.bool)) ≤ 64)) = true
  rw [Bool.and_eq_true]
  exact ⟨by simp only [PyData.canLay0]; exact canLayAll0_bools ns, decide_eq_true h2⟩
open PyProof.V PySem.Spec PySem.SeqAt in
theorem noMix_bools : ∀ ns ms : List Bool, noMixAll (ns.map PyData.bool) (ms.map PyData.bool) = true
  | [], [] => by simp [noMixAll]
  | [], _ :: _ => by simp [noMixAll]
  | _ :: _, [] => by simp [noMixAll]
  | _ :: r, _ :: q => by simp [noMixAll, noMix, noMix_bools r q]
theorem same_bools : ∀ ns ms : List Bool, PySem.Spec.sameAll (ns.map PyData.bool) (ms.map PyData.bool) = (ns == ms)
  | [], [] => by simp [PySem.Spec.sameAll]
  | [], _ :: _ => by simp [PySem.Spec.sameAll]
  | _ :: _, [] => by simp [PySem.Spec.sameAll]
  | n :: r, k :: q => by
    simp only [List.map_cons, PySem.Spec.sameAll, PySem.Spec.same, same_bools r q]
    rw [List.cons_beq_cons]
theorem eqL_of {α : Type} [BEq α] {f : List MV → Option (List α)} {x y : List MV} {K : Bool → Prop} {E : Prop} (hk : eqL f x y K E) : (∃ u v, f x = some u ∧ f y = some v ∧ K (u == v)) ∨ E := by
  rcases orW_of hk with ⟨u, eu, hk⟩ | hk
  · rcases orW_of hk with ⟨v, ev, hk⟩ | hk
    · exact .inl ⟨u, v, eu, ev, hk.2⟩
    · exact .inr hk
  · exact .inr hk
open PyProof.V PySem.Spec PySem.SeqAt in
theorem eq_sound (hu : A.units + 64 < cLine) (I : Inv G Z H s.heap) {a b : MV} {va vb : Value} {K : Bool → Prop} (neg : Bool) (ra : VR G (keys H ++ Z) s.heap a va) (rb : VR G (keys H ++ Z) s.heap b vb) (hk : eqW a b fun c => K (c ^^ neg)) :
    wpAny (model prog w) A (compareOp (if neg then .NotEq else .Eq) va vb) (CQ G Z H s K) E s := by
  have fin : ∀ c, K (c ^^ neg) → CQ G Z H s K (.bool (if neg then !c else c)) s := fun c h => ⟨_, rfl, by cases neg <;> simpa using h, Tr.refl I⟩
  cases a with
  | int x =>
    obtain ⟨t, rfl⟩ := vr_int ra
    refine iW_use (fun v => wpAny (model prog w) A (compareOp (if neg then .NotEq else .Eq) (.int x t) v) (CQ G Z H s K) E s) rb hk fun y u hk => ?_
    have := fin _ hk
    cases neg
    · exact PySem.P.eq_int this
    · exact PySem.P.ne_int this
  | str x =>
    obtain ⟨t, rfl⟩ := vr_str ra
    refine sW_use (fun v => wpAny (model prog w) A (compareOp (if neg then .NotEq else .Eq) (.str x t) v) (CQ G Z H s K) E s) rb hk fun y u hk => ?_
    have := fin _ hk
    have e : (x.cps.toList == y.cps.toList) = (x == y) := toList_beq _ _
    cases neg
    · exact PySem.P.eq_str (by rw [e]; exact this)
    · exact PySem.P.ne_str (by unfold bne; rw [e]; exact this)
  | list x =>
    obtain ⟨y, rfl, hk'⟩ := lW_of hk
    obtain ⟨a1, n1, vs1, rfl, _, g1, q1⟩ := vr_list ra
    obtain ⟨a2, n2, vs2, rfl, _, g2, q2⟩ := vr_list rb
    rcases eqL_of hk' with ⟨u, v, eu, ev, hk⟩ | hk
    · have := fin _ hk
      have l1 : s.heap.IsList a1 vs1.toList.toArray := ⟨_, by simpa using g1, rfl, _, rfl⟩
      have l2 : s.heap.IsList a2 vs2.toList.toArray := ⟨_, by simpa using g2, rfl, _, rfl⟩
      have i1 := vrs_ints eu q1
      have i2 := vrs_ints ev q2
      have e : (u == v) = decide (u = v) := by rw [Bool.eq_iff_iff]; simp
      rw [e] at this
      cases neg
      · exact eq_intsK l1 i1 l2 i2 hu this
      · exact ne_intsK l1 i1 l2 i2 hu this
    · rcases eqL_of hk with ⟨u, v, eu, ev, hk⟩ | hk
      · have := fin _ hk
        have r1 : Reads s.heap (.ref a1) (.list (u.map PyData.bool)) [a1] := by
          have := Reads.list g1 rfl rfl (readsAll_of_bools eu q1)
          simpa using this
        have r2 : Reads s.heap (.ref a2) (.list (v.map PyData.bool)) [a2] := by
          have := Reads.list g2 rfl rfl (readsAll_of_bools ev q2)
          simpa using this
        cases neg
        · exact eq_dataH_same r1 r2 (shaped_bools u) (shaped_bools v) hu (by simp only [noMix]; exact noMix_bools u v) (by simp only [PySem.Spec.same]; rw [same_bools]; exact this)
        · exact ne_dataH_same r1 r2 (shaped_bools u) (shaped_bools v) hu (by simp only [noMix]; exact noMix_bools u v) (by simp only [PySem.Spec.same]; rw [same_bools]; exact this)
      · exact hk.elim
  | none | bool _ | tup _ | ref _ | clo _ _ => exact False.elim hk
theorem cmp_sound (hu : A.units + 64 < cLine) (I : Inv G Z H s.heap) {op : CmpOp} {a b : MV} {va vb : Value} {K : Bool → Prop} (ra : VR G (keys H ++ Z) s.heap a va) (rb : VR G (keys H ++ Z) s.heap b vb) (hk : cmpW H op a b K) :
    wpAny (model prog w) A (compareOp op va vb) (CQ G Z H s K) E s := by
  have i2 : ∀ {op : CmpOp} {R : Int → Int → Prop}, i2W a b R → (∀ x y t u, R x y → wpAny (model prog w) A (compareOp op (.int x t) (.int y u)) (CQ G Z H s K) E s) → wpAny (model prog w) A (compareOp op va vb) (CQ G Z H s K) E s := fun {op R} hk f =>
    i2W_use (fun v u => wpAny (model prog w) A (compareOp op v u) (CQ G Z H s K) E s) ra rb hk f
  cases op with
  | Lt =>
    cases a with
    | int x =>
      obtain ⟨t, rfl⟩ := vr_int ra
      exact iW_use (fun v => wpAny (model prog w) A (compareOp .Lt (.int x t) v) (CQ G Z H s K) E s) rb hk fun y u hk => PySem.P.lt_int ⟨_, rfl, hk, Tr.refl I⟩
    | bool x => cases b with
      | bool y =>
        rw [vr_bool ra, vr_bool rb]
        refine lt_bool ⟨_, rfl, ?_, Tr.refl I⟩
        cases x <;> cases y <;> exact hk
      | none | int _ | str _ | list _ | tup _ | ref _ | clo _ _ => exact False.elim hk
    | none | str _ | list _ | tup _ | ref _ | clo _ _ => exact False.elim hk
  | LtE => exact i2 hk fun x y t u hk => PySem.P.le_int ⟨_, rfl, hk, Tr.refl I⟩
  | Gt => exact i2 hk fun x y t u hk => PySem.P.gt_int ⟨_, rfl, hk, Tr.refl I⟩
  | GtE => exact i2 hk fun x y t u hk => PySem.P.ge_int ⟨_, rfl, hk, Tr.refl I⟩
  | Eq => exact eq_sound (K := K) hu I false ra rb (by have hk : eqW a b K := hk; simpa only [Bool.xor_false] using hk)
  | NotEq => exact eq_sound (K := K) hu I true ra rb (by have hk : eqW a b (fun c => K (!c)) := hk; simpa only [Bool.xor_true] using hk)
  | In => exact in_sound (K := K) I false ra rb (by have hk : inW H a b K := hk; simpa only [Bool.xor_false] using hk)
  | NotIn => exact in_sound (K := K) I true ra rb (by have hk : inW H a b (fun c => K (!c)) := hk; simpa only [Bool.xor_true] using hk)
  | Is => cases b with
    | none =>
      rw [vr_none rb]
      refine is_none ⟨_, rfl, ?_, Tr.refl I⟩
      cases a with
      | none => rw [vr_none ra]; exact hk
      | bool b => rw [vr_bool ra]; exact hk
      | int b => obtain ⟨t, rfl⟩ := vr_int ra; exact hk
      | str b => obtain ⟨t, rfl⟩ := vr_str ra; exact hk
      | list b => obtain ⟨_, _, _, rfl, _⟩ := vr_list ra; exact hk
      | tup b => obtain ⟨_, _, _, rfl, _⟩ := vr_tup ra; exact hk
      | ref b => rw [vr_ref ra]; exact hk
      | clo k vs => unfold VR at ra; obtain ⟨_, _, _, _, rfl, _⟩ := ra; exact hk
    | bool _ | int _ | str _ | list _ | tup _ | ref _ | clo _ _ => exact False.elim hk
  | IsNot => exact False.elim hk
end
end Mine
namespace Mine
variable {G : Stat}
theorem lookup_mem {l : MH} {a : Addr} {xs : List MV} (h : l.lookup a = some xs) : (a, xs) ∈ l := by
  induction l with
  | nil => cases h
  | cons p t ih =>
    rw [List.lookup_cons] at h
    cases hb : a == p.1 with
    | true => rw [hb] at h; cases h; rw [beq_iff_eq.mp hb]; exact .head _
    | false => rw [hb] at h; exact .tail _ (ih h)
theorem lookup_key {l : MH} {a : Addr} {xs : List MV} (h : l.lookup a = some xs) : a ∈ keys l := List.mem_map_of_mem (lookup_mem h)
theorem setH_keys (H : MH) (a : Addr) (xs : List MV) : keys (setH H a xs) = keys H := by
  unfold keys setH
  rw [List.map_map]
  refine List.map_congr_left fun p _ => ?_
  by_cases e : p.1 = a
  · simp [e]
  · simp [e]
theorem seqIndex_place (n : Nat) (k : Int) : seqIndex? k n = place n k := by
  unfold seqIndex? place
  by_cases h : k < 0
  · have h' : ¬ 0 ≤ k := by lia
    simp only [h, h', if_true, if_false]
    by_cases q : 0 ≤ k + n
    · rw [if_pos q, if_pos (by simp; lia)]
    · rw [if_neg q, if_neg (by simp; lia)]
  · have h' : 0 ≤ k := by lia
    simp only [h, h', if_true, if_false]
    by_cases q : k < n
    · rw [if_pos q, if_pos (by simp; lia)]
    · rw [if_neg q, if_neg (by simp; lia)]
section
variable {Z : List Addr} {H : MH} {s : Shared} {A : Around} {E : Value → Shared → Prop} {prog : Program} {w : World}
theorem Inv.put {h h' : Heap} (I : Inv G Z H h) {a : Addr} {xs : List MV} {vs : Array Value} {n : Nat} (ha : a ∈ keys H) (hs : ∀ b o, b ≠ a → h.get? b = some o → h'.get? b = some o)
    (g : h'.get? a = some (lobj vs n)) (r : VRs G (keys H ++ Z) h xs vs.toList) : Inv G Z (setH H a xs) h' := by
  have hk := setH_keys H a xs
  have hX : a ∈ keys H ++ Z := List.mem_append_left _ ha
  have kp : Keep (keys H ++ Z) h h' := fun b o hb _ e => hs b o (fun q => hb (q ▸ hX)) e
  refine ⟨fun b o e => hs b o (fun q => I.base b o e (q ▸ hX)) (I.keep b o e), fun b o e => by rw [hk]; exact I.base b o e, fun t ht => ?_, I.tp, by rw [hk]; exact I.tpk, by rw [hk]; exact I.nd, fun b ys m => ?_, fun b m => ?_⟩
  · obtain ⟨ps, g', t1, t2⟩ := I.tabs t ht
    have hP : t.2.1 ≠ a := fun q => I.tpk a ha (I.tp a (q ▸ List.mem_map_of_mem (f := fun x : Addr × Addr × Str => x.2.1) ht))
    refine ⟨ps, hs _ _ hP g', t1, fun pos c' e => ?_⟩
    obtain ⟨c, ec, hc, rc⟩ := t2 pos c' e
    exact ⟨c, ec, by rw [hk]; exact hc, codeRec_keep kp hc rc⟩
  · rw [hk]
    unfold setH at m
    obtain ⟨p, hp, e⟩ := List.mem_map.mp m
    by_cases q : p.1 = a
    · rw [if_pos q] at e
      cases e
      exact ⟨n, vs, g, VRs.keep kp (Sub.refl _ _) _ _ r⟩
    · rw [if_neg q] at e
      subst e
      obtain ⟨n', vs', g', r'⟩ := I.cells b ys hp
      exact ⟨n', vs', hs _ _ q g', VRs.keep kp (Sub.refl _ _) _ _ r'⟩
  · obtain ⟨o, e⟩ := I.lt b m
    by_cases q : b = a
    · subst q; exact ⟨_, g⟩
    · exact ⟨o, hs _ _ q e⟩
theorem Tr.put (I : Inv G Z H s.heap) {a : Addr} {xs : List MV} {vs : Array Value} {n : Nat} {h' : Heap} {k : Tok} (ha : a ∈ keys H) (hs : ∀ b o, b ≠ a → s.heap.get? b = some o → h'.get? b = some o)
    (g : h'.get? a = some (lobj vs n)) (r : VRs G (keys H ++ Z) s.heap xs vs.toList) : Tr G Z H s (setH H a xs) { s with heap := h', toks := k } :=
  ⟨I.put ha hs g r, fun b o hb e => hs b o (fun q => hb (q ▸ List.mem_append_left _ ha)) e, fun b m => .inl (by rw [setH_keys] at m; exact m), rfl, rfl⟩
theorem del_keys (H : MH) (a : Addr) : ∀ b ∈ keys (delH H a), b ∈ keys H := fun b m => by
  obtain ⟨p, hp, rfl⟩ := List.mem_map.mp m
  exact List.mem_map_of_mem (List.mem_filter.mp hp).1
theorem del_not (H : MH) (a : Addr) : a ∉ keys (delH H a) := fun m => by
  obtain ⟨p, hp, e⟩ := List.mem_map.mp m
  have := (List.mem_filter.mp hp).2
  rw [e] at this
  simp at this
theorem Inv.drop {h : Heap} (I : Inv G Z H h) {H' : MH} (hsub : ∀ p ∈ H', p ∈ H) (hnd : (keys H').Nodup) : Inv G Z H' h := by
  have hk : ∀ b, b ∈ keys H' → b ∈ keys H := fun b m => by
    obtain ⟨p, hp, rfl⟩ := List.mem_map.mp m
    exact List.mem_map_of_mem (hsub p hp)
  have sb : Sub h (keys H' ++ Z) (keys H ++ Z) := fun b m => .inl (by
    rcases List.mem_append.mp m with m | m
    · exact List.mem_append_left _ (hk b m)
    · exact List.mem_append_right _ m)
  have no : ∀ b, b ∉ keys H ++ Z → b ∉ keys H' ++ Z := fun b hb m => by
    rcases sb b m with q | q
    · exact hb q
    · rcases List.mem_append.mp m with m | m
      · exact hb (List.mem_append_left _ (hk b m))
      · exact hb (List.mem_append_right _ m)
  refine ⟨I.keep, fun b o e => no b (I.base b o e), fun t ht => ?_, I.tp, fun b m => I.tpk b (hk b m), hnd, fun b ys m => ?_, I.lt⟩
  · obtain ⟨ps, g, t1, t2⟩ := I.tabs t ht
    exact ⟨ps, g, t1, fun pos c' e => let ⟨c, ec, hc, rc⟩ := t2 pos c' e; ⟨c, ec, no c hc, rc⟩⟩
  · obtain ⟨n, vs, g, r⟩ := I.cells b ys (hsub _ m)
    exact ⟨n, vs, g, VRs.keep (Keep.refl _ _) sb _ _ r⟩
theorem delH_nodup {H : MH} {a : Addr} (h : (keys H).Nodup) : (keys (delH H a)).Nodup := by
  unfold delH keys
  exact List.Nodup.sublist (List.Sublist.map _ List.filter_sublist) h
theorem Tr.drop (I : Inv G Z H s.heap) (a : Addr) : Tr G Z H s (delH H a) s :=
  ⟨I.drop (fun p hp => (List.mem_filter.mp hp).1) (delH_nodup I.nd), KeepE.refl _ _, fun b m => .inl (del_keys H a b m), rfl, rfl⟩
theorem ix_sound (I : Inv G Z H s.heap) {a i : MV} {va vi : Value} {K : MV → Prop} (ra : VR G (keys H ++ Z) s.heap a va) (ri : VR G (keys H ++ Z) s.heap i vi) (hk : ixW H a i K) :
    wpAny (model prog w) A (getItem va vi) (PQ G Z H s K) E s ∧ ((∃ T id, s.TypeIs va T ∧ typeLookup (.type T) "__getitem__" = pure (some (.builtin id)))) := by
  refine iW_use (fun v => wpAny (model prog w) A (getItem va v) (PQ G Z H s K) E s ∧ ((∃ T id, s.TypeIs va T ∧ typeLookup (.type T) "__getitem__" = pure (some (.builtin id))))) ri hk fun k u hk => ?_
  obtain ⟨⟨hlo, hhi⟩, hk⟩ := hk
  have lst : (optW (itemsOf H a) fun xs => optW (place xs.length k) fun j => optW xs[j]? K) → wpAny (model prog w) A (getItem va (.int k u)) (PQ G Z H s K) E s ∧ ((∃ T id, s.TypeIs va T ∧ typeLookup (.type T) "__getitem__" = pure (some (.builtin id)))) := fun hk => by
    obtain ⟨xs, ex, hk⟩ := optW_of hk
    obtain ⟨j, ej, hk⟩ := optW_of hk
    obtain ⟨m, em, hk⟩ := optW_of hk
    obtain ⟨a', n, vs, rfl, g, q⟩ := items_at I ra ex
    have l := vrs_len q
    rw [Array.length_toList] at l
    have hl : s.heap.IsList a' vs := ⟨_, g, rfl, _, rfl⟩
    refine ⟨?_, _, _, hl.typeIs, slot_list_getitem.lookup⟩
    obtain ⟨v, ev, rv⟩ := vrs_get q em
    have hv : vs[j]? = some v := by rw [← Array.getElem?_toList]; exact ev
    have fin : PQ G Z H s K v s := ⟨_, _, ⟨hk, rfl⟩, Tr.refl I, rv⟩
    unfold place at ej
    by_cases h0 : 0 ≤ k
    · rw [if_pos h0] at ej
      by_cases h1 : k < xs.length
      · rw [if_pos h1] at ej
        cases ej
        exact wpAny_getItem_list hl h0 (by lia) hv fin
      · rw [if_neg h1] at ej; cases ej
    · rw [if_neg h0] at ej
      by_cases h1 : 0 ≤ k + xs.length
      · rw [if_pos h1] at ej
        cases ej
        refine wpAny_getItem_list_neg hl (by lia) (by lia) (by lia) ?_ fin
        rw [l]; exact hv
      · rw [if_neg h1] at ej; cases ej
  cases a with
  | str x =>
    obtain ⟨t, rfl⟩ := vr_str ra
    refine ⟨?_, _, _, typeIs_str s x t, PySem.F.slot_str_getitem.lookup⟩
    obtain ⟨j, ej, hk⟩ := optW_of hk
    obtain ⟨c, ec, hk⟩ := optW_of hk
    refine PySem.P.getItem_str (by simp; lia) (c := c) ?_ ?_
    · rw [show x.length = x.cps.size from rfl, seqIndex_place, ej]; exact ec
    · exact pq_str I hk
  | list _ | ref _ => exact lst hk
  | none | bool _ | int _ | tup _ | clo _ _ => exact False.elim hk
theorem range_filterMap {α : Type} (xs : List α) (a b : Nat) (hb : b ≤ xs.length) : ((List.range (b - a)).map (a + ·)).filterMap (fun i => xs[i]?) = (xs.take b).drop a := by
  apply List.ext_getElem?
  intro i
  have key : ∀ (n : Nat), a + n ≤ xs.length → ((List.range n).map (a + ·)).filterMap (fun i => xs[i]?) = (xs.drop a).take n := by
    intro n
    induction n with
    | zero => intro _; simp
    | succ n ih =>
      intro hn
      rw [List.range_succ, List.map_append, List.filterMap_append, ih (by lia)]
      have hlt : a + n < xs.length := by lia
      simp only [List.map_cons, List.map_nil, List.filterMap_cons, List.filterMap_nil, List.getElem?_eq_getElem hlt]
      rw [List.take_succ, List.getElem?_drop, List.getElem?_eq_getElem hlt]
      rfl
  by_cases h : a ≤ b
  · rw [key (b - a) (by lia), List.drop_take]
  · have e : b - a = 0 := by lia
    rw [e]
    simp
    lia
theorem cmin (a b : Nat) : ((min a b : Nat) : Int) = min (a : Int) b := by lia
theorem clip_eq (n : Nat) (i : Int) : max 0 (min (if i < 0 then i + n else i) (n : Int)) = ((clampS n i : Nat) : Int) := by
  unfold clampS
  by_cases h : i < 0
  · rw [if_pos h, if_neg (Int.not_le.mpr h), Int.min_eq_left (by lia), Int.toNat_eq_max, Int.max_comm]
  · obtain ⟨k, rfl⟩ := Int.eq_ofNat_of_zero_le (Int.not_lt.mp h)
    rw [if_neg h, if_pos (Int.natCast_nonneg k), ← cmin]
    exact Int.max_eq_right (Int.natCast_nonneg _)
theorem clamp_le' (n : Nat) (i : Int) : clampS n i ≤ n := by
  unfold clampS
  by_cases h : 0 ≤ i
  · rw [if_pos h]; exact Nat.min_le_right _ _
  · rw [if_neg h]; lia
theorem slice_list (vs : Array Value) (lo hi : Option Int) : (slicePick vs lo hi none).toList = sliceL vs.toList lo hi := by
  unfold slicePick sliceBounds sliceL
  have h1 : (match lo with | none => (0 : Int) | some i => max 0 (min (if i < 0 then i + (vs.size : Int) else i) (vs.size : Int))) = (((lo.map (clampS vs.toList.length)).getD 0 : Nat) : Int) := by
    cases lo with
    | none => rfl
    | some i => rw [Array.length_toList]; exact clip_eq _ _
  have h2 : (match hi with | none => (vs.size : Int) | some i => max 0 (min (if i < 0 then i + (vs.size : Int) else i) (vs.size : Int))) = (((hi.map (clampS vs.toList.length)).getD vs.toList.length : Nat) : Int) := by
    cases hi with
    | none => simp
    | some i => rw [Array.length_toList]; exact clip_eq _ _
  have h3 : ((hi.map (clampS vs.toList.length)).getD vs.toList.length) ≤ vs.toList.length := by
    cases hi with
    | none => exact Nat.le_refl _
    | some i => exact clamp_le' _ _
  have key : ((sliceRange (((lo.map (clampS vs.toList.length)).getD 0 : Nat) : Int) (((hi.map (clampS vs.toList.length)).getD vs.toList.length : Nat) : Int) 1).filterMap (vs[·]?)) = (vs.toList.take ((hi.map (clampS vs.toList.length)).getD vs.toList.length)).drop ((lo.map (clampS vs.toList.length)).getD 0) := by
    rw [sliceRange_one]
    have := range_filterMap vs.toList ((lo.map (clampS vs.toList.length)).getD 0) _ h3
    simpa only [Array.getElem?_toList] using this
  rw [← key, ← h1, ← h2]
  simp
  rfl
end
end Mine
set_option maxRecDepth 20000
namespace Mine
variable {G : Stat}
section
variable {Z : List Addr} {H : MH} {s : Shared} {A : Around} {E : Value → Shared → Prop} {prog : Program} {w : World}
theorem optI_part {X h} {m : MV} {v : Value} {o : Option Int} (r : VR G X h m v) (e : optI m = some o) : IsPart v o ∧ ∃ q : Option (Int × Tok), v = partValue q ∧ q.map (·.1) = o := by
  unfold optI at e
  split at e
  · cases e; rw [vr_none r]; exact ⟨.none, none, rfl, rfl⟩
  · cases e; obtain ⟨t, rfl⟩ := vr_int r; exact ⟨.int _ t, some (_, t), rfl, rfl⟩
  · cases e
theorem strIdx_eq (n : Nat) (l u : Option Int) : Builtin.Str.strSliceIndices l u 1 n = sliceRange (((l.map (clampS n)).getD 0 : Nat) : Int) (((u.map (clampS n)).getD n : Nat) : Int) 1 := by
  have one : (1 : Int) > 0 := by decide
  cases l with
  | none => cases u with
    | none => rfl
    | some j =>
      show sliceRange 0 (max 0 (min (if j < 0 then j + (n : Int) else j) (n : Int))) 1 = _
      rw [clip_eq]; rfl
  | some i => cases u with
    | none =>
      show sliceRange (max 0 (min (if i < 0 then i + (n : Int) else i) (n : Int))) n 1 = _
      rw [clip_eq]; rfl
    | some j =>
      show sliceRange (max 0 (min (if i < 0 then i + (n : Int) else i) (n : Int))) (max 0 (min (if j < 0 then j + (n : Int) else j) (n : Int))) 1 = _
      rw [clip_eq, clip_eq]; rfl
theorem hi_le (n : Nat) (u : Option Int) : (u.map (clampS n)).getD n ≤ n := by
  cases u with
  | none => exact Nat.le_refl _
  | some i => exact clamp_le' _ _
theorem strSlice_eq (x : Str) (l u : Option Int) : (Builtin.Str.strSliceIndices l u 1 x.length).filterMap (x.cps[·]?) = sliceL x.cps.toList l u := by
  rw [strIdx_eq, sliceRange_one]
  have hlen : x.cps.toList.length = x.length := Array.length_toList
  have := range_filterMap x.cps.toList ((l.map (clampS x.length)).getD 0) ((u.map (clampS x.length)).getD x.length) (by rw [hlen]; exact hi_le _ _)
  unfold sliceL
  rw [hlen]
  simpa only [Array.getElem?_toList] using this
theorem strSlice_len (x : Str) (l u : Option Int) : (Builtin.Str.strSliceIndices l u 1 x.length).length = (sliceL x.cps.toList l u).length := by
  have hlen : x.cps.toList.length = x.length := Array.length_toList
  have := hi_le x.length u
  unfold sliceL
  rw [strIdx_eq, sliceRange_one, List.length_map, List.length_range, List.length_drop, List.length_take, hlen]
  lia
theorem sliceL_le {α : Type} (xs : List α) (l u : Option Int) : (sliceL xs l u).length ≤ xs.length := by
  unfold sliceL
  rw [List.length_drop, List.length_take]; lia
theorem sliceL_whole {α : Type} {xs : List α} {l u : Option Int} (h : (sliceL xs l u).length = xs.length) : sliceL xs l u = xs := by
  have h5 : (sliceL xs l u).Sublist xs := by
    unfold sliceL
    exact (List.drop_sublist _ _).trans (List.take_sublist _ _)
  exact h5.eq_of_length h
theorem sl_sound (I : Inv G Z H s.heap) {a lo hi : MV} {va vl vu : Value} {K : MV → Prop} (ra : VR G (keys H ++ Z) s.heap a va) (rl : VR G (keys H ++ Z) s.heap lo vl) (ru : VR G (keys H ++ Z) s.heap hi vu) (hk : slW H a lo hi K) :
    wpAny (model prog w) A (getItem va (.ref s.heap.objs.size)) (PQ G Z H s K) E { s with heap := s.heap.push { cls := .type "slice", data := .fields #[vl, vu, .none] } } ∧
    (∃ T id, ({ s with heap := s.heap.push { cls := .type "slice", data := .fields #[vl, vu, .none] } } : Shared).TypeIs va T ∧ typeLookup (.type T) "__getitem__" = pure (some (.builtin id))) := by
  obtain ⟨l, el, hk⟩ := optW_of hk
  obtain ⟨u, eu, hk⟩ := optW_of hk
  obtain ⟨pl, ql, hql, eql⟩ := optI_part rl el
  obtain ⟨pu, qu, hqu, equ⟩ := optI_part ru eu
  have lst : (optW (itemsOf H a) fun xs => xs.length ≤ 2 ^ 20 ∧ K (.list (sliceL xs l u))) → wpAny (model prog w) A (getItem va (.ref s.heap.objs.size)) (PQ G Z H s K) E { s with heap := s.heap.push { cls := .type "slice", data := .fields #[vl, vu, .none] } } ∧
    (∃ T id, ({ s with heap := s.heap.push { cls := .type "slice", data := .fields #[vl, vu, .none] } } : Shared).TypeIs va T ∧ typeLookup (.type T) "__getitem__" = pure (some (.builtin id))) := fun hk => by
    obtain ⟨xs, ex, hk⟩ := optW_of hk
    obtain ⟨a', n, vs, rfl, g, q⟩ := items_at I ra ex
    have ln := vrs_len q
    rw [Array.length_toList] at ln
    have hl : (s.heap.push { cls := .type "slice", data := .fields #[vl, vu, .none] }).IsList a' vs := ⟨_, Heap.get?_push_of_some _ g, rfl, _, rfl⟩
    refine ⟨?_, _, _, hl.typeIs, slot_list_getitem.lookup⟩
    refine wpAny_getItem_list_slice (lo := l) (hi := u) (st := none) hl ⟨_, Heap.get?_push_size _ rfl, rfl, rfl⟩ pl pu .none (by simp) ?_ (by rw [ln]; exact szL hk.1)
    have hz : (s.heap.push { cls := .type "slice", data := .fields #[vl, vu, .none] }).objs.size = s.heap.objs.size + 1 := Heap.size_push ..
    refine newL_pv (m := false) (Q := fun v H' => K v ∧ H' = H) I (fun a o e => Heap.get?_push_of_some _ (Heap.get?_push_of_some _ e)) rfl rfl ?_ (Heap.get?_push_size _ rfl) ?_ ⟨hk.2, rfl⟩
    · exact Heap.get?_none_of_le (by show _ ≤ (s.heap.push _).objs.size; rw [hz]; exact Nat.le_succ _)
    · rw [slice_list]
      unfold sliceL
      have e : vs.toList.length = xs.length := by rw [Array.length_toList, ln]
      rw [e]
      exact vrs_drop _ (vrs_take _ q)
  cases a with
  | str x =>
    obtain ⟨t, rfl⟩ := vr_str ra
    refine ⟨?_, _, _, typeIs_str _ x t, PySem.F.slot_str_getitem.lookup⟩
    refine wpAny_getItem_str_slice (l := ql) (u := qu) (st := none) ⟨_, Heap.get?_push_size _ rfl, rfl, by rw [hql, hqu]; rfl⟩ rfl ?_
    have e0 : slicePicked x ql qu none = Builtin.Str.strSliceIndices l u 1 x.length := by
      unfold slicePicked
      rw [eql, equ]; rfl
    have hlen : x.cps.toList.length = x.length := Array.length_toList
    have fin : ∀ y t k, y = (⟨(sliceL x.cps.toList l u).toArray⟩ : Str) → PQ G Z H s K (.str y t) { s with heap := s.heap.push { cls := .type "slice", data := .fields #[vl, vu, .none] }, toks := k } := fun y t k ey => ⟨_, _, ⟨hk.2, rfl⟩, Tr.push I _ k, by rw [ey]; exact vr_str'⟩
    unfold sliceMade
    rw [e0]
    split
    · rename_i hc
      have h1 : (Builtin.Str.strSliceIndices l u 1 x.length).length = x.length := by simpa using hc
      refine fin _ _ _ ?_
      rw [sliceL_whole (by rw [← strSlice_len, h1, hlen])]
    · rw [strSlice_eq]
      refine ⟨?_, fin _ _ _ rfl⟩
      have h1 := sliceL_le x.cps.toList l u
      have h2 := hk.1
      show (sliceL x.cps.toList l u).toArray.size ≤ sizeLine
      rw [List.size_toArray, sizeLine_eq]
      lia
  | list _ | ref _ => exact lst hk
  | none | bool _ | int _ | tup _ | clo _ _ => exact False.elim hk
abbrev HQ (G : Stat) (Z : List Addr) (H : MH) (s : Shared) (K : MH → Prop) : Unit → Shared → Prop := fun _ s' => ∃ H', K H' ∧ Tr G Z H s H' s'
theorem del_sound (I : Inv G Z H s.heap) {a i : MV} {va vi : Value} {K : MH → Prop} (ra : VR G (keys H ++ Z) s.heap a va) (ri : VR G (keys H ++ Z) s.heap i vi) (hk : delW H a i K) :
    wpAny (model prog w) A (delItem va vi) (HQ G Z H s K) E s := by
  obtain ⟨a, xs, rfl, ex, hk⟩ := atW_of hk
  rw [vr_ref ra]
  refine iW_use (fun v => wpAny (model prog w) A (delItem (.ref a) v) (HQ G Z H s K) E s) ri hk fun k u hk => ?_
  obtain ⟨⟨hlo, hhi⟩, hk⟩ := hk
  obtain ⟨j, ej, hk⟩ := optW_of hk
  obtain ⟨n, vs, g, q⟩ := I.cells a xs (lookup_mem ex)
  have ln := vrs_len q
  rw [Array.length_toList] at ln
  refine wpAny_delItem_plain (k := j) ⟨n, g⟩ (by unfold Builtin.List.listFitsIndex; simp; lia) (by rw [seqIndex_place, ln]; exact ej) (fun h' hp hs => ?_) (by rw [ln]; exact szL hk.1)
  obtain ⟨n', g'⟩ := hp
  refine ⟨_, hk.2, Tr.put (k := s.toks) I (lookup_key ex) (fun b o hb e => hs.extBut b o hb e) g' ?_⟩
  have : (vs.eraseIdxIfInBounds j).toList = vs.toList.eraseIdx j := by simp
  rw [this]
  exact vrs_erase j q
theorem setItem_plain {l : Addr} {items : Array Value} {n : Nat} {k : Int} {t : Tok} {v : Value} {Q : Unit → Shared → Prop} (hl : s.heap.get? l = some (lobj items n))
    (h0 : 0 ≤ k) (hfit : k < 2 ^ 63) (hn : k < items.size)
    (hQ : ∀ h' n', h'.get? l = some (lobj (items.setIfInBounds k.toNat v) n') → Heap.SameBut l s.heap h' → Q () { s with heap := h' }) :
    wpAny (model prog w) A (setItem (.ref l) (.int k t) v) Q E s := by
  have hl' : s.heap.IsList l items := ⟨_, hl, rfl, _, rfl⟩
  unfold setItem
  try with_reducible refine wpAny_holding ?_
  first | refine wpAny_bind (wpAny_pure ?_) | skip
  refine wpAny_bind (wpAny_sequenceKey hl'.typeIs (by decide) ?_)
  refine wpAny_bind (wpAny_callSpecial?_slot (name := Str.ofString "__setitem__") hl'.typeIs slot_list_setitem
    (wpAny_call_entry slot_list_setitem hl'.typeIs entry_list_setitem ?_ (args_list_setitem _ _ _)))
  show wpAny _ _ (Builtin.List.listSubscript? (.int k t) >>= _) _ _ s
  refine wpAny_bind (wpAny_listSubscript_int (fitsIndex_of h0 hfit) ?_)
  obtain ⟨j, rfl⟩ := Int.eq_ofNat_of_zero_le h0
  have hj : j < items.size := by lia
  have hx' : items[j]? = some items[j] := Array.getElem?_eq_getElem hj
  show wpAny _ _ ((seqItemAt l j >>= fun r => pure (r.map (j, ·))) >>= _) _ _ s
  refine wpAny_bind (wpAny_bind (wpAny_seqItemAt hl rfl (wpAny_pure ?_)))
  rw [hx']
  show wpAny _ _ (setSeqItemAt l j v >>= _) _ _ s
  refine wpAny_bind (wpAny_setSeqItemAt hl rfl ?_)
  have e : Obj.mapSeq (·.setIfInBounds j v) (lobj items n) = lobj (items.setIfInBounds j v) n := by
    show (⟨_, _, .seq (items.setIfInBounds j v) (if (items.setIfInBounds j v).size == items.size then n else n + 1), _⟩ : Obj) = _
    rw [if_pos (by simp)]
  have hfin : (s.heap.update l (Obj.mapSeq (·.setIfInBounds j v))).get? l = some (lobj (items.setIfInBounds j v) n) := by
    rw [Heap.get?_update_self _ hl (by rw [e]; rfl), e]
  first
    | exact wpAny_pure ⟨_, rfl, wpAny_pure (hQ _ _ hfin (Heap.SameBut.update ..))⟩
    | exact wpAny_pure ⟨_, rfl, hQ _ _ hfin (Heap.SameBut.update ..)⟩
theorem set_sound (I : Inv G Z H s.heap) {a i v : MV} {va vi vv : Value} {K : MH → Prop} (ra : VR G (keys H ++ Z) s.heap a va) (ri : VR G (keys H ++ Z) s.heap i vi) (rv : VR G (keys H ++ Z) s.heap v vv) (hk : setW H a i v K) :
    wpAny (model prog w) A (setItem va vi vv) (HQ G Z H s K) E s := by
  obtain ⟨a, xs, rfl, ex, hk⟩ := atW_of hk
  rw [vr_ref ra]
  refine iW_use (fun u => wpAny (model prog w) A (setItem (.ref a) u vv) (HQ G Z H s K) E s) ri hk fun k u hk => ?_
  obtain ⟨⟨h0, h1, h2⟩, hk⟩ := hk
  obtain ⟨n, vs, g, q⟩ := I.cells a xs (lookup_mem ex)
  have ln := vrs_len q
  rw [Array.length_toList] at ln
  refine setItem_plain g h0 (by lia) (by lia) fun h' n' g' hs => ?_
  refine ⟨_, hk, Tr.put (k := s.toks) I (lookup_key ex) (fun b o hb e => hs.extBut b o hb e) g' ?_⟩
  rw [Array.toList_setIfInBounds]
  exact vrs_set _ q rv
theorem rep_sound (I : Inv G Z H s.heap) {x : MV} {k : Int} {va vn : Value} {m : Bool} {Q : MV → MH → Prop} (ra : VR G (keys H ++ Z) s.heap (.list [x]) va) (rn : VR G (keys H ++ Z) s.heap (.int k) vn) (h0 : 0 ≤ k ∧ k ≤ 2 ^ 20)
    (hk : newL m (List.replicate k.toNat x) H Q) : wpAny (model prog w) A (binaryOp .Mult va vn) (PV G Z H s Q) E s := by
  obtain ⟨l, n, vs, rfl, _, g, q⟩ := vr_list ra
  obtain ⟨u, rfl⟩ := vr_int rn
  obtain ⟨v, r, ev, rv, er⟩ := vrs_cons q
  rw [vrs_nil er] at ev
  have hv : vs = #[v] := Array.ext' ev
  subst hv
  have hj : ∀ k : Nat, List.foldl (fun x1 x2 => x1 ++ x2) #[] (List.replicate k #[v]) = (List.replicate k v).toArray := by
    intro k
    suffices h : ∀ (acc : Array Value), List.foldl (fun x1 x2 => x1 ++ x2) acc (List.replicate k #[v]) = acc ++ (List.replicate k v).toArray by simpa using h #[]
    induction k with
    | zero => intro acc; simp
    | succ k ih => intro acc; rw [List.replicate_succ, List.foldl_cons, ih]; apply Array.ext'; simp [List.replicate_succ]
  refine wpAny_binaryOp_repeat_ref (T := "list") (U := "int") (by decide) ⟨_, g, rfl⟩ (fun s' => typeIs_int s' k u) noFill_list_mul PySem.F.fills_int_mul PySem.F.slot_int_rmul repeat_list PySem.F.slot_int_index.lookup
    (call_meets PySem.F.slot_int_rmul (typeIs_int s k u) PySem.F.entry_int_rmul (PySem.F.args_int_rmul_2 _ _) (int___rmul___int_list k u l #[v] n)
      ⟨g, rfl, ⟨_, g, rfl⟩, call_meets PySem.F.slot_list_mul ⟨_, g, rfl⟩ PySem.F.entry_list_mul (PySem.F.args_list_mul_2 _ _)
        (AutoListH.list___mul___list_int_3 l #[v] n k u (by simp [Builtin.List.listFitsIndex]; lia) (by simp; lia) (by simp [Builtin.List.listTooLong, sizeLine]; lia))
        ⟨g, ?_⟩⟩)
  rw [if_neg (by simp), hj]
  exact newL_pv (vs := (List.replicate k.toNat v).toArray) I (Grew.push _ _) rfl rfl (fresh_size _) (Heap.get?_push_size _ rfl) (by simpa using vrs_replicate rv k.toNat) hk
end
end Mine
namespace Mine
variable {G : Stat}
section
variable {Z : List Addr} {H : MH} {s : Shared} {A : Around} {E : Value → Shared → Prop} {prog : Program} {w : World}
theorem pq_bool (I : Inv G Z H s.heap) {K : MV → Prop} {i : Bool} (h : K (.bool i)) : PQ G Z H s K (.bool i) s := ⟨_, _, ⟨h, rfl⟩, Tr.refl I, by unfold VR; rfl⟩
theorem pq_grow (I : Inv G Z H s.heap) {K : MV → Prop} {i : Int} {t k : Tok} {h' : Heap} (g : Grew s.heap h') (h : K (.int i)) : PQ G Z H s K (.int i t) { s with heap := h', toks := k } := ⟨_, _, ⟨h, rfl⟩, Tr.grow I g rfl rfl, by unfold VR; exact ⟨t, rfl⟩⟩
noncomputable def biId : BI → String
  | .len => "len" | .divmod => "divmod" | .min => "min" | .sum => "sum"
theorem bi_sound (hh : A.handled = none) (I : Inv G Z H s.heap) {b : BI} {args : List MV} {vs : List Value} {K : MV → Prop} (ra : VRs G (keys H ++ Z) s.heap args vs) (hk : biW b args H K) :
    wpAny (model prog w) A (call (.builtin (biId b)) vs) (PQ G Z H s K) E s := by
  cases b with
  | len =>
    refine a1W_use (fun q => wpAny (model prog w) A (call (.builtin (biId .len)) q) (PQ G Z H s K) E s) ra hk fun a v r1 hk => ?_
    have lst : (optW (itemsOf H a) fun xs => xs.length ≤ 2 ^ 20 ∧ K (.int xs.length)) → wpAny (model prog w) A (call (.builtin (biId .len)) [v]) (PQ G Z H s K) E s := fun hk => by
      obtain ⟨xs, e, hk⟩ := optW_of hk
      obtain ⟨a', n, ws, rfl, g, q'⟩ := items_at I r1 e
      have ln := vrs_len q'
      rw [Array.length_toList] at ln
      refine PyProof.Rows.len_list (items := ws) ⟨_, g, rfl, _, rfl⟩ (by rw [ln]; have := hk.1; lia) ?_
      rw [ln]
      exact pq_int I hk.2
    cases a with
    | str x =>
      obtain ⟨t, rfl⟩ := vr_str r1
      exact PySem.P.len_str (Int.not_le.mpr (sz63 hk.1)) (pq_int I hk.2)
    | list _ | ref _ => exact lst hk
    | none | bool _ | int _ | tup _ | clo _ _ => exact False.elim hk
  | divmod =>
    refine acW_use (fun q => wpAny (model prog w) A (call (.builtin (biId .divmod)) q) (PQ G Z H s K) E s) ra hk fun a m v q r1 r2 hk => ?_
    refine a1W_use (fun q => wpAny (model prog w) A (call (.builtin (biId .divmod)) (v :: q)) (PQ G Z H s K) E s) r2 hk fun b v' r3 hk => ?_
    refine i2W_use (fun v v' => wpAny (model prog w) A (call (.builtin (biId .divmod)) [v, v']) (PQ G Z H s K) E s) r1 r3 hk fun x y t u hk => ?_
    refine divmod_int hk.1.1 ?_ (.inl hk.1.2)
    refine ⟨_, _, ⟨hk.2, rfl⟩, Tr.push I _ _, ?_⟩
    unfold VR
    exact ⟨_, _, _, rfl, I.off (fresh_size _), Heap.get?_push_size _ rfl, vrs_cons' vr_int' (vrs_cons' vr_int' vrs_nil')⟩
  | min =>
    refine acW_use (fun q => wpAny (model prog w) A (call (.builtin (biId .min)) q) (PQ G Z H s K) E s) ra hk fun a m v q r1 r2 hk => ?_
    refine acW_use (fun q => wpAny (model prog w) A (call (.builtin (biId .min)) (v :: q)) (PQ G Z H s K) E s) r2 hk fun b m v' q r3 r4 hk => ?_
    refine i2W_use (fun v v' => wpAny (model prog w) A (call (.builtin (biId .min)) (v :: v' :: q)) (PQ G Z H s K) E s) r1 r3 hk fun x y t u hk => ?_
    cases m with
    | nil =>
      rw [vrs_nil r4]
      have hk' : K (.int (min x y)) := hk
      refine min_two_ints hh fun h' tk g => ?_
      by_cases c : y < x
      · rw [if_pos c]
        exact pq_grow I g (Int.min_eq_right (Int.le_of_lt c) ▸ hk')
      · rw [if_neg c]
        exact pq_grow I g (Int.min_eq_left (Int.not_lt.mp c) ▸ hk')
    | cons c m =>
      obtain ⟨v₂, q₂, rfl, r5, r6⟩ := vrs_cons r4
      refine a0W_use (fun q => wpAny (model prog w) A (call (.builtin (biId .min)) (.int x t :: .int y u :: v₂ :: q)) (PQ G Z H s K) E s) r6 hk fun hk => ?_
      refine iW_use (fun v₂ => wpAny (model prog w) A (call (.builtin (biId .min)) [.int x t, .int y u, v₂]) (PQ G Z H s K) E s) r5 hk fun z u' hk => ?_
      refine PySem.min_three_ints hh fun h' tk g => ?_
      by_cases c : y < x
      · rw [if_pos c]
        rw [Int.min_eq_right (Int.le_of_lt c)] at hk
        by_cases c' : z < y
        · rw [if_pos c']; exact pq_grow I g (Int.min_eq_right (Int.le_of_lt c') ▸ hk)
        · rw [if_neg c']; exact pq_grow I g (Int.min_eq_left (Int.not_lt.mp c') ▸ hk)
      · rw [if_neg c]
        rw [Int.min_eq_left (Int.not_lt.mp c)] at hk
        by_cases c' : z < x
        · rw [if_pos c']; exact pq_grow I g (Int.min_eq_right (Int.le_of_lt c') ▸ hk)
        · rw [if_neg c']; exact pq_grow I g (Int.min_eq_left (Int.not_lt.mp c') ▸ hk)
  | sum =>
    refine a1W_use (fun q => wpAny (model prog w) A (call (.builtin (biId .sum)) q) (PQ G Z H s K) E s) ra hk fun a v r1 hk => ?_
    obtain ⟨xs, rfl, hk'⟩ := lW_of hk
    obtain ⟨l, e, hk⟩ := optW_of hk'
    obtain ⟨a, n, ws, rfl, _, g, q'⟩ := vr_list r1
    have hi := vrs_ints e q'
    obtain ⟨ps, hps⟩ := hi.allInts.items
    have hws : ws = intItems ps := by rw [← hps]
    have hl : s.heap.IsList a (intItems ps) := ⟨lobj ws n, g, rfl, n, by rw [hws]⟩
    refine sum_intListG hh hl fun h' tk t' g => ?_
    have e2 : preSum (numAt ps) ps.size = l.sum := by
      rw [preSum_eq, List.take_of_length_le (by simp), ← nums_intItems, ← hws, hi.numsOf]
    rw [e2]
    exact pq_grow I g hk
noncomputable def mtId : MI → String
  | .bitLength => "int.bit_length" | .append => "list.append" | .reverse => "list.reverse" | .count => "list.count" | .split => "str.split"
  | .startswith => "str.startswith" | .endswith => "str.endswith" | .find => "str.find" | .lower => "str.lower" | .join => "str.join"
noncomputable def MI.onStr : MI → Bool
  | .bitLength => false | .append => false | .reverse => false | .count => false | _ => true
theorem hm_ne (m : MI) (h : m.onStr = true) : m ≠ .bitLength ∧ m ≠ .append ∧ m ≠ .reverse ∧ m ≠ .count := by
  refine ⟨?_, ?_, ?_, ?_⟩ <;> (intro e; rw [e] at h; cases h)
theorem getM_str {x : Str} {t : Tok} {m : MI} {pl : Sem Bool} {Q : Value × List Value → Shared → Prop} (hm : m ≠ .bitLength ∧ m ≠ .append ∧ m ≠ .reverse ∧ m ≠ .count) (hq : Q (.builtin (mtId m), [.str x t]) s) :
    wpAny (model prog w) A (getMethod (.str x t) m.name pl) Q E s := by
  cases m with
  | bitLength => exact absurd rfl hm.1
  | append => exact absurd rfl hm.2.1
  | reverse => exact absurd rfl hm.2.2.1
  | count => exact absurd rfl hm.2.2.2
  | split =>
    have hq' : Q (.builtin "str.split", [.str x t]) s := hq
    show wpAny _ _ (getMethod (.str x t) "split" pl) Q E s
    with_reducible exact GM.of (.str x t) (typeIs_str _ _ _) PySem.F.slot_str_split PySem.F.type_str_split GM.noRef hq'
  | startswith =>
    have hq' : Q (.builtin "str.startswith", [.str x t]) s := hq
    show wpAny _ _ (getMethod (.str x t) "startswith" pl) Q E s
    exact GM.startswith hq'
  | endswith =>
    have hq' : Q (.builtin "str.endswith", [.str x t]) s := hq
    show wpAny _ _ (getMethod (.str x t) "endswith" pl) Q E s
    exact GM.endswith hq'
  | find =>
    have hq' : Q (.builtin "str.find", [.str x t]) s := hq
    show wpAny _ _ (getMethod (.str x t) "find" pl) Q E s
    exact GM.find hq'
  | lower =>
    have hq' : Q (.builtin "str.lower", [.str x t]) s := hq
    show wpAny _ _ (getMethod (.str x t) "lower" pl) Q E s
    exact GM.lower hq'
  | join =>
    have hq' : Q (.builtin "str.join", [.str x t]) s := hq
    show wpAny _ _ (getMethod (.str x t) "join" pl) Q E s
    with_reducible exact GM.of (.str x t) (typeIs_str _ _ _) PySem.F.slot_str_join PySem.F.type_str_join GM.noRef hq'
theorem isStr_of {o : MV} {X : List Addr} {h : Heap} {v : Value} (r : VR G X h o v) (e : o.isStr = true) : ∃ x t, v = .str x t := by
  cases o with
  | str x => obtain ⟨t, e⟩ := vr_str r; exact ⟨x, t, e⟩
  | none | bool _ | int _ | list _ | tup _ | ref _ | clo _ _ => cases e
theorem isInt_of {o : MV} {X : List Addr} {h : Heap} {v : Value} (r : VR G X h o v) (e : o.isInt = true) : ∃ x t, v = .int x t := by
  cases o with
  | int x => obtain ⟨t, e⟩ := vr_int r; exact ⟨x, t, e⟩
  | none | bool _ | str _ | list _ | tup _ | ref _ | clo _ _ => cases e
theorem isLst_of (I : Inv G Z H s.heap) {o : MV} {vo : Value} (r : VR G (keys H ++ Z) s.heap o vo) (e : (itemsOf H o).isSome = true) : ∃ a ws, vo = .ref a ∧ s.heap.IsList a ws ∧ s.heap.NoDictAt (.ref a) := by
  obtain ⟨xs, e⟩ := Option.isSome_iff_exists.mp e
  obtain ⟨a, n, ws, e1, g, _⟩ := items_at I r e
  exact ⟨a, ws, e1, ⟨_, g, rfl, _, rfl⟩, ⟨_, g, rfl⟩⟩
theorem mt_get (I : Inv G Z H s.heap) {m : MI} {o : MV} {vo : Value} {pl : Sem Bool} {Q : Value × List Value → Shared → Prop} (r : VR G (keys H ++ Z) s.heap o vo) (h : mtT m o H) (hq : Q (.builtin (mtId m), [vo]) s) :
    wpAny (model prog w) A (getMethod vo m.name pl) Q E s := by
  cases m with
  | bitLength =>
    obtain ⟨x, t, rfl⟩ := isInt_of r h
    have hq' : Q (.builtin "int.bit_length", [.int x t]) s := hq
    show wpAny _ _ (getMethod (.int x t) (Str.ofString "bit_length") pl) Q E s
    exact getMethod_int_bit_length hq'
  | append =>
    obtain ⟨a, ws, rfl, hl, hd⟩ := isLst_of I r h
    have hq' : Q (.builtin "list.append", [.ref a]) s := hq
    show wpAny _ _ (getMethod (.ref a) "append" pl) Q E s
    with_reducible exact getMethod_list_of PySem.F.slot_list_append PySem.F.type_list_append hl hd hq'
  | reverse =>
    obtain ⟨a, ws, rfl, hl, hd⟩ := isLst_of I r h
    have hq' : Q (.builtin "list.reverse", [.ref a]) s := hq
    show wpAny _ _ (getMethod (.ref a) "reverse" pl) Q E s
    with_reducible exact getMethod_list_of PySem.F.slot_list_reverse PySem.F.type_list_reverse hl hd hq'
  | count =>
    obtain ⟨a, ws, rfl, hl, hd⟩ := isLst_of I r h
    have hq' : Q (.builtin "list.count", [.ref a]) s := hq
    show wpAny _ _ (getMethod (.ref a) "count" pl) Q E s
    with_reducible exact getMethod_list_of PySem.F.slot_list_count PySem.F.type_list_count hl hd hq'
  | split =>
    have h' : o.isStr = true := h
    obtain ⟨x, t, rfl⟩ := isStr_of r h'
    exact getM_str (m := .split) (hm_ne .split rfl) hq
  | startswith =>
    have h' : o.isStr = true := h
    obtain ⟨x, t, rfl⟩ := isStr_of r h'
    exact getM_str (m := .startswith) (hm_ne .startswith rfl) hq
  | endswith =>
    have h' : o.isStr = true := h
    obtain ⟨x, t, rfl⟩ := isStr_of r h'
    exact getM_str (m := .endswith) (hm_ne .endswith rfl) hq
  | find =>
    have h' : o.isStr = true := h
    obtain ⟨x, t, rfl⟩ := isStr_of r h'
    exact getM_str (m := .find) (hm_ne .find rfl) hq
  | lower =>
    have h' : o.isStr = true := h
    obtain ⟨x, t, rfl⟩ := isStr_of r h'
    exact getM_str (m := .lower) (hm_ne .lower rfl) hq
  | join =>
    have h' : o.isStr = true := h
    obtain ⟨x, t, rfl⟩ := isStr_of r h'
    exact getM_str (m := .join) (hm_ne .join rfl) hq
open Builtin Builtin.Str in
theorem searchRange_two {α : Type} (n : Nat) (i j : Int) (u v : Tok) (f : Nat × Nat → Sem α) : (searchRange n [.int i u, .int j v] >>= f) = f ((max 0 (if i < 0 then i + n else i)).toNat, min (max 0 (if j < 0 then j + n else j)).toNat n) := rfl
open Builtin Builtin.Str in
theorem gives_find4 (x y : Str) (i j : Int) (t u v v' : Tok) : Gives («str.find» ⟨[.str x t, .str y u, .int i v, .int j v'], []⟩)
    (.int (match occurrences x y (fromIndex x.length i) (min (fromIndex x.length j) x.length) 1 with | k :: _ => (k : Int) | [] => -1)) := by
  show Gives (match occurrences x y (fromIndex x.length i) (min (fromIndex x.length j) x.length) 1 with | k :: _ => retInt k | [] => (do rule "str.find.not-found"; retInt (-1))) _
  cases occurrences x y (fromIndex x.length i) (min (fromIndex x.length j) x.length) 1 with
  | nil => exact .rule (.of_eq rfl)
  | cons k _ => exact .of_eq rfl
theorem vrs_of_strs {X : List Addr} {h : Heap} : ∀ (l : List (Str × Tok)), VRs G X h ((l.map (·.1)).map .str) (strValues l)
  | [] => vrs_nil'
  | (x, t) :: r => vrs_cons' vr_str' (vrs_of_strs r)
theorem strs_values {vs : List Value} {l : List Str} (h : StrsAre vs l) : ∃ ps : List (Str × Tok), vs = strValues ps ∧ ps.map (·.1) = l := by
  induction h with
  | nil => exact ⟨[], rfl, rfl⟩
  | cons x t _ ih => obtain ⟨ps, rfl, rfl⟩ := ih; exact ⟨(x, t) :: ps, rfl, rfl⟩
theorem fromIndex_nat {n : Nat} {i : Int} (h : 0 ≤ i) : fromIndex n i = i.toNat := by unfold fromIndex; rw [if_neg (Int.not_lt.mpr h), Int.max_eq_right h]
theorem fromIndex_hi {n : Nat} {j : Int} (h : 0 ≤ j) (h' : j ≤ n) : min (fromIndex n j) n = j.toNat := by rw [fromIndex_nat h]; exact Nat.min_eq_left (by lia)
theorem mt_call (I : Inv G Z H s.heap) {m : MI} {o : MV} {vo : Value} {args : List MV} {vs : List Value} {mu : Bool} {K : MV → MH → Prop} (r : VR G (keys H ++ Z) s.heap o vo) (ra : VRs G (keys H ++ Z) s.heap args vs) (hk : mtW m o args mu H K) :
    wpAny (model prog w) A (call (.builtin (mtId m)) (vo :: vs)) (PV G Z H s K) E s := by
  have go1 : ∀ {m : MI} {R : MV → Prop}, a1W args R → (∀ a v, VR G (keys H ++ Z) s.heap a v → R a → wpAny (model prog w) A (call (.builtin (mtId m)) [vo, v]) (PV G Z H s K) E s) → wpAny (model prog w) A (call (.builtin (mtId m)) (vo :: vs)) (PV G Z H s K) E s := fun {m R} hk f =>
    a1W_use (fun q => wpAny (model prog w) A (call (.builtin (mtId m)) (vo :: q)) (PV G Z H s K) E s) ra hk f
  have go0 : ∀ {m : MI} {R : Prop}, a0W args R → (R → wpAny (model prog w) A (call (.builtin (mtId m)) [vo]) (PV G Z H s K) E s) → wpAny (model prog w) A (call (.builtin (mtId m)) (vo :: vs)) (PV G Z H s K) E s := fun {m R} hk f =>
    a0W_use (fun q => wpAny (model prog w) A (call (.builtin (mtId m)) (vo :: q)) (PV G Z H s K) E s) ra hk f
  have goS : ∀ {m : MI} {v : Value} {a : MV} {R : Str → Str → Prop}, VR G (keys H ++ Z) s.heap a v → (sW a fun y => sW o fun x => R y x) → (∀ y x t u, R y x → wpAny (model prog w) A (call (.builtin (mtId m)) [.str x u, .str y t]) (PV G Z H s K) E s) → wpAny (model prog w) A (call (.builtin (mtId m)) [vo, v]) (PV G Z H s K) E s := fun {m v a R} ra hk f =>
    sW_use (fun v => wpAny (model prog w) A (call (.builtin (mtId m)) [vo, v]) (PV G Z H s K) E s) ra hk fun y t hk => sW_use (fun vo => wpAny (model prog w) A (call (.builtin (mtId m)) [vo, .str y t]) (PV G Z H s K) E s) r hk fun x u hk => f y x t u hk
  cases m with
  | bitLength => exact go0 hk fun hk => iW_use (fun v => wpAny (model prog w) A (call (.builtin (mtId .bitLength)) [v]) (PV G Z H s K) E s) r hk fun x t hk => call_int_bit_length (PV.int I hk)
  | append =>
    refine go1 hk fun v v' r1 hk => ?_
    obtain ⟨a, xs, rfl, ex, hk⟩ := atW_of hk
    rw [vr_ref r]
    obtain ⟨n, ws, g, q'⟩ := I.cells a xs (lookup_mem ex)
    have ln := vrs_len q'
    rw [Array.length_toList] at ln
    refine wpAny_list_append_plain ⟨n, g⟩ (fun h' hp hs => ?_) (by rw [ln, sizeLine_eq]; have := hk.1; lia)
    obtain ⟨n', g'⟩ := hp
    refine ⟨_, _, hk.2, Tr.put (k := s.toks) I (lookup_key ex) (fun b o hb e => hs.extBut b o hb e) g' ?_, by unfold VR; rfl⟩
    rw [Array.toList_push]
    exact vrs_append q' (vrs_cons' r1 vrs_nil')
  | reverse =>
    refine go0 hk fun hk => ?_
    obtain ⟨a, xs, rfl, ex, hk⟩ := atW_of hk
    rw [vr_ref r]
    obtain ⟨n, ws, g, q'⟩ := I.cells a xs (lookup_mem ex)
    have ln := vrs_len q'
    rw [Array.length_toList] at ln
    refine call_meets PySem.F.slot_list_reverse ⟨_, g, rfl⟩ PySem.F.entry_list_reverse (PySem.F.args_list_reverse_1 _) (AutoSeq1.list_reverse_list_0 a ws n (by rw [ln]; exact szL hk.1)) ⟨g, ?_⟩
    have e : Obj.mapSeq (fun x => x.reverse) (lobj ws n) = lobj ws.reverse n := by
      show (⟨_, _, .seq ws.reverse (if ws.reverse.size == ws.size then n else n + 1), _⟩ : Obj) = _
      rw [if_pos (by simp)]
    refine ⟨_, _, hk.2, Tr.put (k := s.toks) (vs := ws.reverse) (n := n) I (lookup_key ex) (fun b o hb e => (Heap.SameBut.update ..).extBut b o hb e) (by rw [Heap.get?_update_self _ g (by rw [e]; rfl), e]) ?_, by unfold VR; rfl⟩
    rw [Array.toList_reverse]
    exact vrs_reverse q'
  | count =>
    refine go1 hk fun v v' r1 hk => iW_use (fun v => wpAny (model prog w) A (call (.builtin (mtId .count)) [vo, v]) (PV G Z H s K) E s) r1 hk fun x t hk => ?_
    obtain ⟨xs, ex, hk⟩ := optW_of hk
    obtain ⟨l, el, hk⟩ := optW_of hk
    obtain ⟨a, n, ws, rfl, g, q'⟩ := items_at I r ex
    exact count_list_ints ⟨_, by simpa using g, rfl, _, rfl⟩ (vrs_ints el q') (PV.int I hk.2)
  | startswith => exact go1 hk fun v v' r1 hk => goS r1 hk fun y x t u hk => SC.startswith (PV.bool (k := s.toks) I hk)
  | endswith => exact go1 hk fun v v' r1 hk => goS r1 hk fun y x t u hk => SC.endswith (PV.bool (k := s.toks) I hk)
  | lower => exact go0 hk fun hk => sW_use (fun v => wpAny (model prog w) A (call (.builtin (mtId .lower)) [v]) (PV G Z H s K) E s) r hk fun x t hk => SCL.lower (by have := hk.1; lia) fun _ => PV.str I hk.2
  | split =>
    refine go1 hk fun v v' r1 hk => goS r1 hk fun y x t u hk => ?_
    obtain ⟨⟨hy, hx⟩, hk⟩ := hk
    have hn : (Builtin.Str.partsBetween x (Builtin.Str.occurrences x y 0 x.length (x.length + 1)) y.length).length ≤ sizeLine := by
      have e1 := StrLaws.occ_length_le x y 0 x.length (x.length + 1)
      rw [length_partsBetween, sizeLine_eq]; lia
    have hy' : (y.length == 0) = false := by simpa using hy
    have hsz : x.length ≤ sizeLine := szL hx
    have fin : ∀ (l : List (Str × Tok)) k, l.map (·.1) = Txt.split x y → PV G Z H s K (.ref s.heap.objs.size) { s with heap := s.heap.push { cls := .type "list", data := .seq (strValues l).toArray }, toks := k } := fun l k e =>
      newL_pv I (Grew.push _ _) rfl rfl (fresh_size _) (Heap.get?_push_size _ rfl) (by rw [← e]; exact vrs_of_strs l) hk
    cases h1 : (decide (x.length < y.length) || decide (Builtin.Str.strKind x < Builtin.Str.strKind y))
    · cases hf : (Builtin.Str.occurrences x y 0 x.length (x.length + 1)).isEmpty
      · refine call_meets PySem.F.slot_str_split (typeIs_str _ _ _) PySem.F.entry_str_split (PySem.F.args_str_split_2 _ _) (meets_str_split_sep x y u t h1 hy' hf hsz hn) ?_
        show wants _ E _ { s with toks := _, heap := s.heap.push { cls := .type "list", data := .seq (strsFrom s.toks (Builtin.Str.partsBetween x (Builtin.Str.occurrences x y 0 x.length (x.length + 1)) y.length)).toArray } }
        rw [strsFrom_eq]
        exact fin (numbered s.toks _) _ ((numbered_texts _ _).trans ((if_neg (ne_true_of_eq_false h1)).trans (if_neg (ne_true_of_eq_false hf))).symm)
      · exact call_meets PySem.F.slot_str_split (typeIs_str _ _ _) PySem.F.entry_str_split (PySem.F.args_str_split_2 _ _) (meets_str_split_not_found x y u t h1 hy' hf)
          (fin [(x, u)] s.toks ((if_neg (ne_true_of_eq_false h1)).trans (if_pos hf)).symm)
    · exact call_meets PySem.F.slot_str_split (typeIs_str _ _ _) PySem.F.entry_str_split (PySem.F.args_str_split_2 _ _) (meets_str_split_cannot_occur x y u t h1)
        (fin [(x, u)] s.toks (if_pos h1).symm)
  | join =>
    refine go1 hk fun a v' r1 hk => sW_use (fun v => wpAny (model prog w) A (call (.builtin (mtId .join)) [v, v']) (PV G Z H s K) E s) r hk fun x u hk => ?_
    obtain ⟨ys, e, hk⟩ := optW_of hk
    obtain ⟨l, el, hk⟩ := optW_of hk
    obtain ⟨a', n, ws, rfl, g, q'⟩ := items_at I r1 e
    obtain ⟨ps, e1, e2⟩ := strs_values (vrs_strs el q')
    have hw : ws = (strValues ps).toArray := Array.ext' (by rw [e1])
    exact SC.join (D := a') (l := ps) (texts := l) ⟨lobj ws n, g, rfl, n, by rw [hw]⟩ e2 hk.1 fun t' k => PV.str I hk.2
  | find =>
    refine acW_use (fun q => wpAny (model prog w) A (call (.builtin (mtId .find)) (vo :: q)) (PV G Z H s K) E s) ra hk fun a m v q r1 r2 hk => ?_
    refine acW_use (fun q => wpAny (model prog w) A (call (.builtin (mtId .find)) (vo :: v :: q)) (PV G Z H s K) E s) r2 hk fun b m v₂ q r3 r4 hk => ?_
    refine a1W_use (fun q => wpAny (model prog w) A (call (.builtin (mtId .find)) (vo :: v :: v₂ :: q)) (PV G Z H s K) E s) r4 hk fun c v₃ r5 hk => ?_
    refine sW_use (fun v => wpAny (model prog w) A (call (.builtin (mtId .find)) [vo, v, v₂, v₃]) (PV G Z H s K) E s) r1 hk fun y t hk => ?_
    refine i2W_use (fun v₂ v₃ => wpAny (model prog w) A (call (.builtin (mtId .find)) [vo, .str y t, v₂, v₃]) (PV G Z H s K) E s) r3 r5 hk fun i j t₂ t₃ hk => ?_
    refine sW_use (fun vo => wpAny (model prog w) A (call (.builtin (mtId .find)) [vo, .str y t, .int i t₂, .int j t₃]) (PV G Z H s K) E s) r hk fun x u hk => ?_
    refine call_gives PySem.F.slot_str_find (typeIs_str _ _ _) PySem.F.entry_str_find (PySem.F.args_str_find_4 _ _ _ _) (gives_find4 x y i j u t t₂ t₃) ?_
    obtain ⟨⟨h0, h1, h2⟩, hk⟩ := hk
    rw [fromIndex_nat h0, fromIndex_hi h1 h2]
    exact PV.int I hk
end
end Mine
namespace Mine
variable {G : Stat}
structure TrW (G : Stat) (Z W : List Addr) (H : MH) (s : Shared) (H' : MH) (s' : Shared) : Prop where
  inv : Inv G Z H' s'.heap
  keep : KeepE (keys H ++ (G.TP ++ W)) s.heap s'.heap
  sub : ∀ a ∈ keys H', a ∈ keys H ∨ s.heap.get? a = none
  wl : ∀ a ∈ W, (∃ o, s.heap.get? a = some o) → ∃ o, s'.heap.get? a = some o
  gens : (s'.gens, s'.drawn) = (s.gens, s.drawn)
  os : s'.os = s.os
  kp : Keep (keys H ++ Z) s.heap s'.heap
section
variable {Z W : List Addr} {H H' H₁ H₂ : MH} {s s' s₁ s₂ : Shared} {h h' : Heap}
theorem TrW.of (T : Tr G Z H s H' s') (hw : ∀ a ∈ W, a ∉ keys H ++ G.TP) : TrW G Z W H s H' s' :=
  ⟨T.inv, T.keep.mono fun a m => by rcases List.mem_append.mp m with m | m <;> simp [m], T.sub, fun a m ⟨o, e⟩ => ⟨o, T.keep a o (hw a m) e⟩, T.gens, T.os, fun a o ha _ e => T.keep a o (fun m => by
    rcases List.mem_append.mp m with m | m
    · exact ha (List.mem_append_left _ m)
    · exact ha (List.mem_append_right _ (T.inv.tp a m))) e⟩
theorem TrW.refl (I : Inv G Z H s.heap) : TrW G Z W H s H s := ⟨I, KeepE.refl _ _, fun _ m => .inl m, fun _ _ x => x, rfl, rfl, Keep.refl _ _⟩
theorem TrW.trans (T : TrW G Z W H s H₁ s₁) (U : TrW G Z W H₁ s₁ H₂ s₂) : TrW G Z W H s H₂ s₂ where
  inv := U.inv
  keep := fun a o m e => U.keep a o (fun q => by
    rcases List.mem_append.mp q with q | q
    · rcases T.sub a q with q | q
      · exact m (List.mem_append_left _ q)
      · rw [q] at e; cases e
    · exact m (List.mem_append_right _ q)) (T.keep a o m e)
  sub := fun a m => by
    rcases U.sub a m with q | q
    · exact T.sub a q
    · by_cases hk : a ∈ keys H
      · exact .inl hk
      · refine .inr ?_
        cases e : s.heap.get? a with
        | none => rfl
        | some o =>
          by_cases ht : a ∈ G.TP
          · obtain ⟨t, ht', rfl⟩ := List.mem_map.mp ht
            obtain ⟨ps, g, _⟩ := T.inv.tabs t ht'
            rw [q] at g; cases g
          · by_cases hw : a ∈ W
            · obtain ⟨o', e'⟩ := T.wl a hw ⟨o, e⟩
              rw [q] at e'; cases e'
            · have := T.keep a o (fun m => by
                rcases List.mem_append.mp m with m | m
                · contradiction
                · rcases List.mem_append.mp m with m | m <;> contradiction) e
              rw [q] at this; cases this
  wl := fun a m x => U.wl a m (T.wl a m x)
  gens := U.gens.trans T.gens
  os := U.os.trans T.os
  kp := fun a o ha hc e => U.kp a o (fun m => by
    rcases List.mem_append.mp m with m | m
    · rcases T.sub a m with q | q
      · exact ha (List.mem_append_left _ q)
      · rw [q] at e; cases e
    · exact ha (List.mem_append_right _ m)) hc (T.kp a o ha hc e)
theorem TrW.mono {W' : List Addr} (T : TrW G Z W H s H' s') (hw : ∀ a ∈ W, a ∈ W') (hn : ∀ a ∈ W', a ∉ W → a ∉ keys H ++ G.TP) : TrW G Z W' H s H' s' :=
  ⟨T.inv, T.keep.mono fun a m => by
    rcases List.mem_append.mp m with m | m
    · exact List.mem_append_left _ m
    · rcases List.mem_append.mp m with m | m
      · exact List.mem_append_right _ (List.mem_append_left _ m)
      · exact List.mem_append_right _ (List.mem_append_right _ (hw a m)), T.sub, fun a m ⟨o, e⟩ => by
    by_cases q : a ∈ W
    · exact T.wl a q ⟨o, e⟩
    · refine ⟨o, T.keep a o (fun m' => ?_) e⟩
      have := hn a m q
      rcases List.mem_append.mp m' with m' | m'
      · exact this (List.mem_append_left _ m')
      · rcases List.mem_append.mp m' with m' | m'
        · exact this (List.mem_append_right _ m')
        · exact q m', T.gens, T.os, T.kp⟩
theorem TrW.tr {W₂ : List Addr} (T : TrW G Z (W ++ W₂) H s H' s') (hw : ∀ a ∈ W, s.heap.get? a = none) : TrW G Z W₂ H s H' s' :=
  ⟨T.inv, fun a o m e => T.keep a o (fun q => m (by
    rcases List.mem_append.mp q with q | q
    · exact List.mem_append_left _ q
    · rcases List.mem_append.mp q with q | q
      · exact List.mem_append_right _ (List.mem_append_left _ q)
      · rcases List.mem_append.mp q with q | q
        · rw [hw a q] at e; cases e
        · exact List.mem_append_right _ (List.mem_append_right _ q))) e, T.sub, fun a m x => T.wl a (List.mem_append_right _ m) x, T.gens, T.os, T.kp⟩
theorem TrW.nil (T : TrW G Z [] H s H' s') : Tr G Z H s H' s' := ⟨T.inv, by have := T.keep; rwa [List.append_nil] at this, T.sub, T.gens, T.os⟩
theorem VR.sub {X X' : List Addr} {m : MV} {v : Value} (hs : ∀ a ∈ X', a ∈ X) (r : VR G X h m v) : VR G X' h m v := VR.keep (Keep.refl _ _) (fun a m => .inl (hs a m)) m v r
theorem VRs.sub {X X' : List Addr} {m : List MV} {v : List Value} (hs : ∀ a ∈ X', a ∈ X) (r : VRs G X h m v) : VRs G X' h m v := VRs.keep (Keep.refl _ _) (fun a m => .inl (hs a m)) m v r
theorem mem_z {a : Addr} {N : List Addr} : a ∈ keys H ++ Z → a ∈ keys H ++ (N ++ Z) := fun m => by
  rcases List.mem_append.mp m with m | m <;> simp [m]
theorem Inv.dropZ {N : List Addr} (I : Inv G (N ++ Z) H h) (tp : ∀ a ∈ G.TP, a ∈ Z) : Inv G Z H h where
  keep := I.keep
  base := fun a o e m => I.base a o e (mem_z m)
  tabs := fun t ht => by
    obtain ⟨ps, g, t1, t2⟩ := I.tabs t ht
    exact ⟨ps, g, t1, fun pos c' e => let ⟨c, ec, hc, rc⟩ := t2 pos c' e; ⟨c, ec, fun m => hc (mem_z m), rc⟩⟩
  tp := tp
  tpk := fun a m q => I.tpk a m (List.mem_append_right _ q)
  nd := I.nd
  cells := fun a xs m => let ⟨n, vs, g, r⟩ := I.cells a xs m; ⟨n, vs, g, r.sub fun a m => mem_z m⟩
  lt := fun a m => I.lt a (List.mem_append_right _ m)
theorem Inv.addZ {N : List Addr} (I : Inv G Z H h) (k : Grew h h') (hN : ∀ a ∈ N, h.get? a = none) (hl : ∀ a ∈ N, ∃ o, h'.get? a = some o) : Inv G (N ++ Z) H h' := by
  have J := I.grow k
  have sb : Sub h (keys H ++ (N ++ Z)) (keys H ++ Z) := fun a m => by
    rcases List.mem_append.mp m with m | m
    · exact .inl (List.mem_append_left _ m)
    · rcases List.mem_append.mp m with m | m
      · exact .inr (hN a m)
      · exact .inl (List.mem_append_right _ m)
  have kp : Keep (keys H ++ Z) h h' := fun a o _ _ e => k a o e
  refine ⟨J.keep, fun a o e m => ?_, fun t ht => ?_, fun a m => List.mem_append_right _ (I.tp a m), fun a m q => ?_, I.nd, fun a xs m => ?_, fun a m => ?_⟩
  · rcases sb a m with q | q
    · exact I.base a o e q
    · have := I.keep a o e; rw [q] at this; cases this
  · obtain ⟨ps, g, t1, t2⟩ := I.tabs t ht
    refine ⟨ps, k _ _ g, t1, fun pos c' e => ?_⟩
    obtain ⟨c, ec, hc, rc⟩ := t2 pos c' e
    refine ⟨c, ec, ?_, rc.keeps k⟩
    obtain ⟨c₂, o, _, _, e2, g2, _⟩ := rc
    cases e2
    exact sb.not hc g2
  · rcases List.mem_append.mp q with q | q
    · exact some_none (I.key_at m) (hN a q)
    · exact I.tpk a m q
  · obtain ⟨n', vs', g', r'⟩ := I.cells a xs m
    exact ⟨n', vs', k _ _ g', VRs.keep kp sb _ _ r'⟩
  · rcases List.mem_append.mp m with m | m
    · exact hl a m
    · exact J.lt a m
theorem Inv.touch (I : Inv G Z H h) (hs : ∀ a o, h.get? a = some o → h'.get? a = some o ∨ ((a ∈ Z ∨ o.data = .cell none) ∧ a ∉ G.TP ∧ a ∉ keys H ∧ G.B.get? a = none ∧ ∃ o', h'.get? a = some o')) : Inv G Z H h' := by
  have kp : Keep (keys H ++ Z) h h' := fun a o ha hc e => by
    rcases hs a o e with q | ⟨q | q, _⟩
    · exact q
    · exact absurd (List.mem_append_right _ q) ha
    · exact absurd q hc
  refine ⟨fun a o e => ?_, I.base, fun t ht => ?_, I.tp, I.tpk, I.nd, fun a xs m => ?_, fun a m => ?_⟩
  · rcases hs a o (I.keep a o e) with q | ⟨_, _, _, q, _⟩
    · exact q
    · rw [e] at q; cases q
  · obtain ⟨ps, g, t1, t2⟩ := I.tabs t ht
    refine ⟨ps, ?_, t1, fun pos c' e => ?_⟩
    · rcases hs _ _ g with q | ⟨_, q, _⟩
      · exact q
      · exact absurd (List.mem_map_of_mem (f := fun x : Addr × Addr × Str => x.2.1) ht) q
    · obtain ⟨c, ec, hc, rc⟩ := t2 pos c' e
      exact ⟨c, ec, hc, codeRec_keep kp hc rc⟩
  · obtain ⟨n, vs, g, r⟩ := I.cells a xs m
    refine ⟨n, vs, ?_, VRs.keep kp (Sub.refl _ _) _ _ r⟩
    rcases hs _ _ g with q | ⟨_, _, q, _⟩
    · exact q
    · exact absurd (List.mem_map_of_mem (f := fun x : Addr × List MV => x.1) m) q
  · obtain ⟨o, e⟩ := I.lt a m
    rcases hs a o e with q | ⟨_, _, _, _, q⟩
    · exact ⟨o, q⟩
    · exact q
theorem Inv.take {D : Addr} {N : List Addr} (I : Inv G (D :: Z) H h) {vs : Array Value} {n : Nat} {ms : List MV} (hD : D ∉ Z) (hT : D ∉ G.TP)
    (g : h.get? D = some (lobj vs n)) (r : VRs G (keys H ++ (D :: Z)) h ms vs.toList) : Inv G Z ((D, ms) :: H) h := by
  have hs : ∀ a, a ∈ keys ((D, ms) :: H) ++ Z → a ∈ keys H ++ (D :: Z) := fun a m => by
    rcases List.mem_cons.mp (show a ∈ D :: (keys H ++ Z) from m) with q | q
    · simp [q]
    · rcases List.mem_append.mp q with q | q <;> simp [q]
  have hk : D ∉ keys H := fun m => I.tpk D m (.head _)
  refine ⟨I.keep, fun a o e m => I.base a o e (hs a m), fun t ht => ?_, fun a m => ?_, fun a m q => ?_, ?_, fun a xs m => ?_, fun a m => I.lt a (.tail _ m)⟩
  · obtain ⟨ps, g, t1, t2⟩ := I.tabs t ht
    exact ⟨ps, g, t1, fun pos c' e => let ⟨c, ec, hc, rc⟩ := t2 pos c' e; ⟨c, ec, fun m => hc (hs _ m), rc⟩⟩
  · rcases List.mem_cons.mp (I.tp a m) with q | q
    · exact absurd (q ▸ m) hT
    · exact q
  · rcases List.mem_cons.mp (show a ∈ D :: keys H from m) with e | e
    · exact hD (e ▸ q)
    · exact I.tpk a e (.tail _ q)
  · exact List.nodup_cons.mpr ⟨hk, I.nd⟩
  · rcases List.mem_cons.mp m with e | m
    · cases e; exact ⟨n, vs, g, r.sub hs⟩
    · obtain ⟨n', vs', g', r'⟩ := I.cells a xs m
      exact ⟨n', vs', g', r'.sub hs⟩
theorem FR.addZ {C : Ctx} {env : Env} {F : FP} {l : Loc} {N : List Addr} (R : FR G C env F Z l H h) (k : Grew h h') (hN : ∀ a ∈ N, h.get? a = none) : FR G C env F (N ++ Z) l H h' := by
  have sb : Sub h (keys H ++ (N ++ Z)) (keys H ++ Z) := fun a m => by
    rcases List.mem_append.mp m with m | m
    · exact .inl (List.mem_append_left _ m)
    · rcases List.mem_append.mp m with m | m
      · exact .inr (hN a m)
      · exact .inl (List.mem_append_right _ m)
  have up : ∀ {m : MV} {v : Value}, VR G (keys H ++ Z) h m v → VR G (keys H ++ (N ++ Z)) h' m v := fun r => VR.keep (fun a o _ _ e => k a o e) sb _ _ r
  exact R.map up (fun a _ o e => k a o e) R.offA (fun a m => List.mem_append_right _ (R.z a m)) fun a m q => (List.mem_append.mp q).elim (fun q => some_none (R.lt a (List.mem_append_right _ m)) (hN a q)) (R.zc a m)
theorem FR.dropZ {C : Ctx} {env : Env} {F : FP} {l : Loc} {N : List Addr} (R : FR G C env F (N ++ Z) l H h) (hz : ∀ a ∈ F.L :: F.nc, a ∈ Z) : FR G C env F Z l H h :=
  R.map (fun r => r.sub fun a m => mem_z m) (fun _ _ _ e => e) R.offA hz fun a m q => R.zc a m (List.mem_append_right _ q)
end
end Mine
namespace Mine
variable {G : Stat}
structure StatOk (G : Stat) : Prop where
  ns : G.B.Ns mainGlobals G.mg
  nb : G.B.Ns builtinsNs G.mb
  nolimit : G.B.NoLimit
  bi : ∀ b : BI, G.mg b.name = none ∧ G.mb b.name = some (.builtin (biId b))
  tlist : G.mg "list" = none ∧ G.mb "list" = some (.type "list")
  trange : G.mg "range" = none ∧ G.mb "range" = some (.type "range")
  trev : G.mg "reversed" = none ∧ G.mb "reversed" = some (.type "reversed")
  tsort : G.mg "sorted" = none ∧ G.mb "sorted" = some (.builtin "sorted")
  bat : ∀ P, G.B.get? P = none → ∀ h : Heap, (∀ a o, G.B.get? a = some o → h.get? a = some o) → h.BuiltinsAt G.mg P
  hd : ∀ t ∈ G.tabs, CodeHd G.B t.1 t.2.1
  tnd : G.TP.Nodup
noncomputable def ME.plainBase : ME → Bool
  | .v .. => true | .cs .. => true | .gc .. => true | _ => false
noncomputable def MIt.noRev : MIt → Bool
  | .rev .. => false | _ => true
noncomputable def SK.nk : SK → NameKind
  | .loc => .local | .nc => .cell | .cc => .cell | .fr => .free
noncomputable def SK.own : SK → Bool
  | .loc => true | .nc => true | _ => false
noncomputable def CompI.ok (c : CompI) (C : Ctx) : Bool :=
  (match c.own with | [(x, k)] => k.own && c.scope.names.lookup x == some k.nk && c.scope.names.all (fun y => y.2 != .cell || (y.1 == x && k.nk == .cell)) && !(x == ("__debug__" : Str)) && !(x == ("__classdict__" : Str)) && !((c.cap.map C.nm).contains x) | _ => false) &&
  c.scope.kind == .function &&
  c.scope.names.all (fun y => (y.2 != .local || c.scope.names.lookup y.1 == some .local) && (y.2 != .free || (c.cap.map C.nm).contains y.1)) &&
  c.cap.all (fun i => (match C.slots[i]? with | some (_, .loc) => false | some _ => true | none => false) && c.scope.names.lookup (C.nm i) == some .free) &&
  decide ((c.cap.map C.nm).Nodup) &&
  c.globs.all (fun x => c.scope.names.lookup x == some .globalImplicit && !(x == ("__debug__" : Str)))
mutual
noncomputable def okE (C : Ctx) : ME → Bool
  | .cn _ => true
  | .cb _ _ => true
  | .ci _ _ => true
  | .cs _ _ => true
  | .v _ _ => true
  | .gc x _ _ => C.globs.contains x
  | .bin _ a b _ => okE C a && okE C b
  | .rep a n _ _ => okE C a && okE C n
  | .un _ a _ => okE C a
  | .bo _ es _ => okEs C es
  | .ite t a b _ => okE C t && okE C a && okE C b
  | .cmp _ a b _ => okE C a && okE C b
  | .ls _ es _ => okEs C es
  | .tp es _ => okEs C es
  | .ix a i _ => okE C a && okE C i
  | .slL a lo _ _ => okE C a && okE C lo
  | .slU a hi _ _ => okE C a && okE C hi
  | .slB a lo hi _ _ => okE C a && okE C lo && okE C hi
  | .cg f _ _ es _ => C.globs.contains f && okEs C es
  | .cgk f _ _ es _ e _ _ => C.globs.contains f && okEs C es && okE C e && (es.length != 0)
  | .cv _ _ es _ => okEs C es
  | .bi b _ es _ => C.globs.contains b.name && okEs C es
  | .lst it _ _ _ => C.globs.contains ("list" : Str) && okI C it && it.noRev
  | .srt _ _ _ _ _ _ => false
  | .mt o _ pa es _ p => okE C o && okEs C es && o.plainBase && (pa.endLine == p.line) && decide (es.length < 29)
  | .lm _ _ _ _ _ _ => true
  | .comp c _ elt _ it ifs _ => c.ok C && okI C it && okE (c.ctx C) elt && okEs (c.ctx C) ifs
  | .fz e => okE C e
noncomputable def okEs (C : Ctx) : MEs → Bool
  | .nil => true
  | .cons e es => okE C e && okEs C es
noncomputable def okI (C : Ctx) : MIt → Bool
  | .it e => okE C e
  | .rng es _ _ => C.globs.contains ("range" : Str) && okEs C es
  | .rev e _ _ => C.globs.contains ("reversed" : Str) && okE C e
end
theorem star_cons (C : Ctx) (env : Env) (r : List Expr) : ∀ e : ME, starEach (den C e :: r) env = (false, eval (den C e) env) :: starEach r env
  | .fz e => star_cons C env r e
  | .cn _ | .cb _ _ | .ci _ _ | .cs _ _ | .v _ _ | .gc _ _ _ | .bin _ _ _ _ | .rep _ _ _ _ | .un _ _ _ | .bo _ _ _ | .ite _ _ _ _ | .cmp _ _ _ _ | .ls _ _ _ | .tp _ _ | .ix _ _ _ | .slL _ _ _ _ | .slU _ _ _ _ | .slB _ _ _ _ _
  | .cg _ _ _ _ _ | .cgk _ _ _ _ _ _ _ _ | .cv _ _ _ _ | .bi _ _ _ _ | .lst _ _ _ _ | .srt _ _ _ _ _ _ | .mt _ _ _ _ _ _ | .lm _ _ _ _ _ _ | .comp _ _ _ _ _ _ _ => rfl
theorem no_mark (C : Ctx) (op : CmpOp) : ∀ e : ME, behindInMarks op (den C e) = false
  | .fz e => no_mark C op e
  | .cn _ | .cb _ _ | .ci _ _ | .cs _ _ | .v _ _ | .gc _ _ _ | .bin _ _ _ _ | .rep _ _ _ _ | .un _ _ _ | .bo _ _ _ | .ite _ _ _ _ | .cmp _ _ _ _ | .ls _ _ _ | .tp _ _ | .ix _ _ _ | .slL _ _ _ _ | .slU _ _ _ _ | .slB _ _ _ _ _
  | .cg _ _ _ _ _ | .cgk _ _ _ _ _ _ _ _ | .cv _ _ _ _ | .bi _ _ _ _ | .lst _ _ _ _ | .srt _ _ _ _ _ _ | .mt _ _ _ _ _ _ | .lm _ _ _ _ _ _ | .comp _ _ _ _ _ _ _ => rfl
theorem no_slice (C : Ctx) (o i : Value) : ∀ e : ME, subscripted (den C e) false o i = operate [o, i] (getItem o i)
  | .fz e => no_slice C o i e
  | .cn _ | .cb _ _ | .ci _ _ | .cs _ _ | .v _ _ | .gc _ _ _ | .bin _ _ _ _ | .rep _ _ _ _ | .un _ _ _ | .bo _ _ _ | .ite _ _ _ _ | .cmp _ _ _ _ | .ls _ _ _ | .tp _ _ | .ix _ _ _ | .slL _ _ _ _ | .slU _ _ _ _ | .slB _ _ _ _ _
  | .cg _ _ _ _ _ | .cgk _ _ _ _ _ _ _ _ | .cv _ _ _ _ | .bi _ _ _ _ | .lst _ _ _ _ | .srt _ _ _ _ _ _ | .mt _ _ _ _ _ _ | .lm _ _ _ _ _ _ | .comp _ _ _ _ _ _ _ => rfl
theorem no_set (C : Ctx) (env : Env) (x : Value) : ∀ e : ME, foldedSetIterable (den C e) env x = pure x
  | .fz e => no_set C env x e
  | .cn _ | .cb _ _ | .ci _ _ | .cs _ _ | .v _ _ | .gc _ _ _ | .bin _ _ _ _ | .rep _ _ _ _ | .un _ _ _ | .bo _ _ _ | .ite _ _ _ _ | .cmp _ _ _ _ | .ls _ _ _ | .tp _ _ | .ix _ _ _ | .slL _ _ _ _ | .slU _ _ _ _ | .slB _ _ _ _ _
  | .cg _ _ _ _ _ | .cgk _ _ _ _ _ _ _ _ | .cv _ _ _ _ | .bi _ _ _ _ | .lst _ _ _ _ | .srt _ _ _ _ _ _ | .mt _ _ _ _ _ _ | .lm _ _ _ _ _ _ | .comp _ _ _ _ _ _ _ => rfl
theorem no_setI (C : Ctx) (env : Env) (x : Value) : ∀ e : MIt, foldedSetIterable (denI C e) env x = pure x
  | .it e => no_set C env x e
  | .rng _ _ _ | .rev _ _ _ => rfl
theorem args_eq (C : Ctx) (env : Env) (pos : Pos) : ∀ es : MEs, backTo pos (starEach (dens C es) env) = (dens C es).map fun e => (false, eval e env)
  | .nil => rfl
  | .cons e es => by
    show backTo pos (starEach (den C e :: dens C es) env) = _
    rw [star_cons]
    show (false, _) :: backTo pos (starEach (dens C es) env) = _
    rw [args_eq C env pos es]
    rfl
theorem args_any (C : Ctx) (env : Env) (es : MEs) : ((dens C es).map fun e => (false, eval e env)).any (·.1) = false := by
  rw [List.any_map]
  exact List.any_eq_false.mpr fun _ _ => by simp
theorem rg (C : Ctx) : ∀ es : MEs, (dens C es).length = es.length
  | .nil => rfl
  | .cons e es => by show (dens C es).length + 1 = _; rw [rg C es]; rfl
section
variable {M : Model} {A : Around} {E : Value → Shared → Prop} {s : Shared} {env : Env}
theorem evalArgs_es (C : Ctx) (es : MEs) {f : Value} {Q : Args → Shared → Prop} (h : wpAny M A (spliced ((dens C es).map fun e => (false, eval e env))) (fun vs s' => Q ⟨vs, []⟩ s') E s) :
    wpAny M A (evalArgs f true ((dens C es).map fun e => (false, eval e env)) []) Q E s := by
  cases es with
  | nil =>
    show wpAny M A (evalArgs f true [] []) Q E s
    unfold evalArgs
    show wpAny M A (spliced [] >>= _) Q E s
    refine wpAny_bind (wpAny_mono h (fun vs s' h' => ?_) fun _ _ x => x)
    refine wpAny_bind (wpAny_pure ?_)
    refine wpAny_holding ?_
    exact wpAny_bind (wpAny_pure (wpAny_bind (wpAny_pure (wpAny_pure h'))))
  | cons e es => exact Calls.evalArgs_plain h
end
section
variable {Z : List Addr} {H : MH} {s : Shared} {A : Around} {E : Value → Shared → Prop} {env : Env} {C : Ctx} {F : FP} {l : Loc} {pos : Pos}
theorem Inv.mgl (hS : StatOk G) (I : Inv G Z H s.heap) : s.heap.Ns mainGlobals G.mg := hS.ns.keeps fun a o e => I.keep a o e
theorem Inv.mbl (hS : StatOk G) (I : Inv G Z H s.heap) : s.heap.Ns builtinsNs G.mb := hS.nb.keeps fun a o e => I.keep a o e
theorem load_slot_raw (R : FR G C env F Z l H s.heap) {i : Nat} {m : MV} {Q : Value → Shared → Prop} (e : l[i]? = some (some m))
    (hq : ∀ v, VR G (keys H ++ Z) s.heap m v → Q v s) : wpAny (model G.prog G.w) A (loadName env (C.nm i)) Q E s := by
  have hi : i < C.slots.length := by
    rw [← R.len]
    exact (List.getElem?_eq_some_iff.mp e).1
  obtain ⟨⟨x, k⟩, hx⟩ : ∃ p, C.slots[i]? = some p := ⟨_, List.getElem?_eq_getElem hi⟩
  have hn : C.nm i = x := by unfold Ctx.nm; rw [List.getD_eq_getElem?_getD, hx]; rfl
  have hm : x ∈ C.slots.map (·.1) := List.mem_map_of_mem (f := fun p : Str × SK => p.1) (List.mem_of_getElem? hx)
  rw [hn]
  cases k with
  | loc =>
    obtain ⟨m', hns, hv⟩ := R.ns
    obtain ⟨hk, hv⟩ := hv i x hx
    obtain ⟨rv, e1, e2⟩ := hv m e
    exact wpAny_loadName_local R.kind hk (R.locals ▸ hns) e1 (hq _ e2)
  | nc =>
    obtain ⟨hk, c, ec, _, _, orv, ic, hv, _⟩ := R.cell i x _ hx (.inl rfl)
    obtain ⟨rv, rfl, e2⟩ := hv m e
    exact wpAny_loadName_cell R.kind hk ec ic (hq _ e2)
  | cc =>
    obtain ⟨hk, c, ec, _, _, orv, ic, hv, _⟩ := R.cell i x _ hx (.inr rfl)
    obtain ⟨rv, rfl, e2⟩ := hv m e
    exact wpAny_loadName_cell R.kind hk ec ic (hq _ e2)
  | fr =>
    obtain ⟨hk, hv⟩ := R.free i x hx
    obtain ⟨c, rv, ec, _, _, _, _, ic, e2⟩ := hv m e
    rcases hk with hk | hk
    · exact wpAny_loadName_free R.kind hk ec ic (hq _ e2) (R.cls x hm)
    · exact wpAny_loadName_cell R.kind hk ec ic (hq _ e2)
theorem load_slot (R : FR G C env F Z l H s.heap) {i : Nat} {m : MV} {Q : Value → Shared → Prop} (e : l[i]? = some (some m))
    (hq : ∀ v, VR G (keys H ++ Z) s.heap m v → Q v s) : wpAny (model G.prog G.w) A (eval (.Name (C.nm i) pos) env) Q E s := by
  refine wpAny_Name (load_slot_raw R e hq) (R.dbg _ (List.mem_append_left _ ?_))
  have hi : i < C.slots.length := by
    rw [← R.len]
    exact (List.getElem?_eq_some_iff.mp e).1
  obtain ⟨⟨x, k⟩, hx⟩ : ∃ p, C.slots[i]? = some p := ⟨_, List.getElem?_eq_getElem hi⟩
  have hn : C.nm i = x := by unfold Ctx.nm; rw [List.getD_eq_getElem?_getD, hx]; rfl
  rw [hn]
  exact List.mem_map_of_mem (f := fun p : Str × SK => p.1) (List.mem_of_getElem? hx)
theorem load_glob (hS : StatOk G) (I : Inv G Z H s.heap) (R : FR G C env F Z l H s.heap) {x : Str} {v : Value} {Q : Value → Shared → Prop} (hx : C.globs.contains x = true) (e : G.mg x = some v) (hq : Q v s) :
    wpAny (model G.prog G.w) A (eval (.Name x pos) env) Q E s := by
  have hm : x ∈ C.globs := by simpa using hx
  exact Calls.Name_function_global R.kind (R.glob x hm) (Calls.loadGlobal_global (R.globals ▸ I.mgl hS) e hq) (R.dbg x (List.mem_append_right _ hm))
theorem load_built (hS : StatOk G) (I : Inv G Z H s.heap) (R : FR G C env F Z l H s.heap) {x : Str} {v : Value} {Q : Value → Shared → Prop} (hx : C.globs.contains x = true) (e : G.mg x = none ∧ G.mb x = some v) (hq : Q v s) :
    wpAny (model G.prog G.w) A (eval (.Name x pos) env) Q E s := by
  have hm : x ∈ C.globs := by simpa using hx
  exact Calls.Name_function_global R.kind (R.glob x hm) (Calls.loadGlobal_builtin (R.globals ▸ I.mgl hS) e.1 (R.builtins ▸ I.mbl hS) e.2 hq) (R.dbg x (List.mem_append_right _ hm))
end
section
variable {C : Ctx}
theorem z5 {u1} : okE C (.cn u1) = (true) := rfl
theorem z6 {u1 u2} : okE C (.cb u1 u2) = (true) := rfl
theorem z7 {u1 u2} : okE C (.ci u1 u2) = (true) := rfl
theorem z8 {u1 u2} : okE C (.cs u1 u2) = (true) := rfl
theorem z9 {u1 u2} : okE C (.v u1 u2) = (true) := rfl
theorem ty {x u1 u2} : okE C (.gc x u1 u2) = (C.globs.contains x) := rfl
theorem tz {u1 a b u2} : okE C (.bin u1 a b u2) = (okE C a && okE C b) := rfl
theorem v6 {a n u1 u2} : okE C (.rep a n u1 u2) = (okE C a && okE C n) := rfl
theorem rh {u1 a u2} : okE C (.un u1 a u2) = (okE C a) := rfl
theorem rj {u1 es u2} : okE C (.bo u1 es u2) = (okEs C es) := rfl
theorem rp {t a b u1} : okE C (.ite t a b u1) = (okE C t && okE C a && okE C b) := rfl
theorem rq {u1 a b u2} : okE C (.cmp u1 a b u2) = (okE C a && okE C b) := rfl
theorem vc {u1 es u2} : okE C (.ls u1 es u2) = (okEs C es) := rfl
theorem vd {es u1} : okE C (.tp es u1) = (okEs C es) := rfl
theorem ve {a i u1} : okE C (.ix a i u1) = (okE C a && okE C i) := rfl
theorem vg {a lo u1 u2} : okE C (.slL a lo u1 u2) = (okE C a && okE C lo) := rfl
theorem vh {a hi u1 u2} : okE C (.slU a hi u1 u2) = (okE C a && okE C hi) := rfl
theorem vj {a lo hi u1 u2} : okE C (.slB a lo hi u1 u2) = (okE C a && okE C lo && okE C hi) := rfl
theorem vk {f u1 u2 es u3} : okE C (.cg f u1 u2 es u3) = (C.globs.contains f && okEs C es) := rfl
theorem vm {f u1 u2 es u3 e u4 u5} : okE C (.cgk f u1 u2 es u3 e u4 u5) = (C.globs.contains f && okEs C es && okE C e && (es.length != 0)) := rfl
theorem vp {u1 u2 es u3} : okE C (.cv u1 u2 es u3) = (okEs C es) := rfl
theorem vq {b u1 es u2} : okE C (.bi b u1 es u2) = (C.globs.contains b.name && okEs C es) := rfl
theorem vt {it u1 u2 u3} : okE C (.lst it u1 u2 u3) = (C.globs.contains ("list" : Str) && okI C it && it.noRev) := rfl
theorem rt {u1 u2 u3 u4 u5 u6} : okE C (.srt u1 u2 u3 u4 u5 u6) = (false) := rfl
theorem vw {o u1 pa es u2 p} : okE C (.mt o u1 pa es u2 p) = (okE C o && okEs C es && o.plainBase && (pa.endLine == p.line) && decide (es.length < 29)) := rfl
theorem za {u1 u2 u3 u4 u5 u6} : okE C (.lm u1 u2 u3 u4 u5 u6) = (true) := rfl
theorem rx {c u1 elt u2 it ifs u3} : okE C (.comp c u1 elt u2 it ifs u3) = (c.ok C && okI C it && okE (c.ctx C) elt && okEs (c.ctx C) ifs) := rfl
theorem vx {e} : okE C (.fz e) = (okE C e) := rfl
theorem zb : okEs C (.nil) = (true) := rfl
theorem ov {e es} : okEs C (.cons e es) = (okE C e && okEs C es) := rfl
theorem rz {e} : okI C (.it e) = (okE C e) := rfl
theorem s0 {es u1 u2} : okI C (.rng es u1 u2) = (C.globs.contains ("range" : Str) && okEs C es) := rfl
theorem vy {e u1 u2} : okI C (.rev e u1 u2) = (C.globs.contains ("reversed" : Str) && okE C e) := rfl
end
end Mine
namespace Mine
variable {G : Stat}
noncomputable def notCell (o : Obj) : Prop := ∀ v, o.data ≠ .cell v
structure Itr (G : Stat) (A : Around) (Z : List Addr) (H : MH) (xs : List MV) (I : Addr) (fp : List Addr) (P : Nat → Value → Prop) (St : Nat → Heap → Prop) (s : Shared) : Prop where
  inv : Inv G (I :: Z) H s.heap
  walk : Walks G.prog G.w A I fp [I] xs.length P St
  st : St 0 s.heap
  fp : ∀ b ∈ fp, b = I ∨ (b ∉ keys H ++ Z ∧ ∃ o, s.heap.get? b = some o ∧ notCell o)
  item : ∀ i v, P i v → ∃ m, xs[i]? = some m ∧ VR G (keys H ++ ([I] ++ Z)) s.heap m v
  ex : ∀ i h, St i h → ∃ o, h.get? I = some o
noncomputable def ItQ (G : Stat) (A : Around) (Z : List Addr) (H : MH) (s : Shared) (xs : List MV) (v : Value) (s₂ : Shared) : Prop :=
  ∃ I fp P St, v = .ref I ∧ s.heap.get? I = none ∧ Grew s.heap s₂.heap ∧ (s₂.gens, s₂.drawn) = (s.gens, s.drawn) ∧ s₂.os = s.os ∧ Itr G A Z H xs I fp P St s₂
noncomputable def ItP (G : Stat) (A : Around) (Z : List Addr) (H : MH) (s : Shared) (Q : List MV → MH → Prop) (v : Value) (s₂ : Shared) : Prop :=
  ∃ xs H₁ s₁, Q xs H₁ ∧ Tr G Z H s H₁ s₁ ∧ ItQ G A Z H₁ s₁ xs v s₂
structure Lsb (G : Stat) (Z : List Addr) (H : MH) (xs : List MV) (x : Value) (s : Shared) : Prop where
  lst : ∀ (A : Around) (E : Value → Shared → Prop) (Q : Value → Shared → Prop), A.handled = none → xs.length ≤ 2 ^ 20 →
    (∀ h' tk n vs, Grew s.heap h' → h'.get? s.heap.objs.size = some (lobj vs n) → VRs G (keys H ++ Z) s.heap xs vs.toList → Q (.ref s.heap.objs.size) { s with heap := h', toks := tk }) →
    wpAny (model G.prog G.w) A (call (.type "list") [x]) Q E s
section
variable {Z : List Addr} {H : MH} {s : Shared}
theorem Itr.new {A : Around} {xs : List MV} {fp : List Addr} {P : Nat → Value → Prop} {St : Nat → Heap → Prop} {o : Obj} {k : Tok} (I : Inv G Z H s.heap)
    (W : Walks G.prog G.w A s.heap.objs.size fp [s.heap.objs.size] xs.length P St) (st : St 0 (s.heap.push o)) (hf : ∀ b ∈ fp, b = s.heap.objs.size ∨ (b ∉ keys H ++ Z ∧ ∃ o, s.heap.get? b = some o ∧ notCell o))
    (hi : ∀ i v, P i v → ∃ m, xs[i]? = some m ∧ VR G (keys H ++ Z) s.heap m v) (hs : (s.heap.push o).get? s.heap.objs.size = some o) (hx : ∀ i h, St i h → ∃ o, h.get? s.heap.objs.size = some o) : ItQ G A Z H s xs (.ref s.heap.objs.size) { s with heap := s.heap.push o, toks := k } := by
  have hfr : ∀ a ∈ [s.heap.objs.size], s.heap.get? a = none := fun a m => by
    rcases List.mem_cons.mp m with rfl | m
    · exact fresh_size _
    · cases m
  refine ⟨s.heap.objs.size, fp, P, St, rfl, fresh_size _, Grew.push _ _, rfl, rfl, I.addZ (N := [s.heap.objs.size]) (Grew.push _ _) hfr (fun a m => ?_), W, st, fun b m => ?_, fun i v e => ?_, hx⟩
  · rcases List.mem_cons.mp m with rfl | m
    · exact ⟨o, hs⟩
    · cases m
  · rcases hf b m with q | ⟨q, o, g, h⟩
    · exact .inl q
    · exact .inr ⟨q, o, Heap.get?_push_of_some _ g, h⟩
  · obtain ⟨m, e1, e2⟩ := hi i v e
    refine ⟨m, e1, VR.keep (fun a o _ _ e => Heap.get?_push_of_some _ e) (fun a m => ?_) _ _ e2⟩
    rcases List.mem_append.mp m with m | m
    · exact .inl (List.mem_append_left _ m)
    · rcases List.mem_append.mp m with m | m
      · exact .inr (hfr a m)
      · exact .inl (List.mem_append_right _ m)
section
variable {A : Around} {E : Value → Shared → Prop}
theorem itb_at (hh : A.handled = none) (I : Inv G Z H s.heap) {a : Addr} {n : Nat} {vs : Array Value} {xs : List MV} (g : s.heap.get? a = some (lobj vs n)) (ha : a ∉ keys H ++ Z) (r : VRs G (keys H ++ Z) s.heap xs vs.toList) :
    wpAny (model G.prog G.w) A (pyIter (.ref a)) (ItQ G A Z H s xs) E s ∧ Lsb G Z H xs (.ref a) s := by
  have ln := vrs_len r
  rw [Array.length_toList] at ln
  refine ⟨?_, ⟨fun A E Q hh hn h => ?_⟩⟩
  · have hl : s.heap.IsList a vs := ⟨_, g, rfl, _, rfl⟩
    have hne : a ≠ s.heap.objs.size := Nat.ne_of_lt (Heap.lt_size g)
    refine wpAny_pyIter_list hl (Itr.new (fp := [s.heap.objs.size, a]) I (ln ▸ Walks.list hh _ a hne vs) ⟨⟨_, Heap.get?_push_size _ rfl, rfl, rfl⟩, ⟨_, Heap.get?_push_of_some _ g, rfl, _, rfl⟩⟩ (fun b m => ?_) (fun i v e => ?_) (Heap.get?_push_size _ rfl) (fun i h st => let ⟨o, e, _⟩ := st.1; ⟨o, e⟩))
    · rcases List.mem_cons.mp m with rfl | m
      · exact .inl rfl
      · rcases List.mem_cons.mp m with rfl | m
        · exact .inr ⟨ha, _, g, by intro v; nofun⟩
        · cases m
    · have hi : i < xs.length := by
        rw [← ln]; exact (Array.getElem?_eq_some_iff.mp e).1
      obtain ⟨v', e1, e2⟩ := vrs_get r (List.getElem?_eq_getElem hi)
      rw [Array.getElem?_toList, e] at e1
      cases e1
      exact ⟨_, List.getElem?_eq_getElem hi, e2⟩
  · exact call_list_seq a (.inl rfl) g rfl rfl (fun h' c' hk e => h h' s.toks c' vs hk e r) (by rw [ln, sizeLine_eq]; lia)
end
theorem signs_get {x : Str} {i : Nat} {v : Value} {X : List Addr} {h : Heap} (e : SignAt x i v) : ∃ m, (signs x)[i]? = some m ∧ VR G X h m v := by
  obtain ⟨c, u, e1, rfl⟩ := e
  refine ⟨.str ⟨#[c]⟩, ?_, vr_str'⟩
  unfold signs
  rw [List.getElem?_map, Array.getElem?_toList, e1]
  rfl
theorem signs_len (x : Str) : (signs x).length = x.cps.size := by unfold signs; rw [List.length_map, Array.length_toList]
theorem vrs_of_get {X : List Addr} {h : Heap} : ∀ {xs : List MV} {vs : List Value}, vs.length = xs.length → (∀ (i : Nat) (v : Value), vs[i]? = some v → ∃ m, xs[i]? = some m ∧ VR G X h m v) → VRs G X h xs vs
  | [], [], _, _ => vrs_nil'
  | [], _ :: _, e, _ => by cases e
  | _ :: _, [], e, _ => by cases e
  | x :: xs, v :: vs, e, h => by
    obtain ⟨m, e1, e2⟩ := h 0 v rfl
    cases e1
    exact vrs_cons' e2 (vrs_of_get (by simpa using e) fun i v e => h (i + 1) v e)
theorem push_str_iter {x : Str} {t : Tok} {A : Around} {E : Value → Shared → Prop} {Q : Value → Shared → Prop}
    (hQ : ∀ (o : Obj) (St : Nat → Heap → Prop), (s.heap.push o).get? s.heap.objs.size = some o → (∀ A' : Around, A'.handled = none → Walks G.prog G.w A' s.heap.objs.size [s.heap.objs.size] [s.heap.objs.size] x.cps.size (SignAt x) St) → St 0 (s.heap.push o) → (∀ i h, St i h → ∃ o, h.get? s.heap.objs.size = some o) →
      Q (.ref s.heap.objs.size) { s with heap := s.heap.push o }) : wpAny (model G.prog G.w) A (pyIter (.str x t)) Q E s := by
  cases ha : x.cps.all (· < 128)
  · exact wpAny_pyIter_wide ha (hQ _ _ (Heap.get?_push_size _ rfl) (fun A' hA => Walks.strWide hA _ x t) ⟨_, Heap.get?_push_size _ rfl, rfl, rfl⟩ (fun i h st => let ⟨o, e, _⟩ := st; ⟨o, e⟩))
  · exact wpAny_pyIter_ascii ha (hQ _ _ (Heap.get?_push_size _ rfl) (fun A' hA => Walks.strAscii hA _ x t) ⟨_, Heap.get?_push_size _ rfl, rfl, rfl⟩ (fun i h st => let ⟨o, e, _⟩ := st; ⟨o, e⟩))
theorem itb_str {A : Around} {E : Value → Shared → Prop} (hh : A.handled = none) (I : Inv G Z H s.heap) {x : Str} {t : Tok} :
    wpAny (model G.prog G.w) A (pyIter (.str x t)) (ItQ G A Z H s (signs x)) E s ∧ Lsb G Z H (signs x) (.str x t) s := by
  refine ⟨?_, ⟨fun A E Q hh hn h => ?_⟩⟩
  · refine push_str_iter fun o St ho W st hx => Itr.new (k := s.toks) (fp := [s.heap.objs.size]) I (signs_len x ▸ W A hh) st (fun b m => ?_) (fun i v e => signs_get e) ho hx
    rcases List.mem_cons.mp m with rfl | m
    · exact .inl rfl
    · cases m
  · rw [signs_len] at hn
    refine call_list_str hh x t (fun h' tk acc' c' hk e hi => h h' tk c' acc' hk e ?_) (by rw [sizeLine_eq]; lia)
    refine vrs_of_get ?_ fun i v e => ?_
    · rw [signs_len, Array.length_toList]; exact hi.1
    · exact signs_get (hi.2 i v (by rw [← Array.getElem?_toList]; exact e))
theorem range_get {a c : Int} {n i : Nat} {v : Value} {X : List Addr} {h : Heap} (hi : i < n) (e : ∃ t, v = .int (a + i * c) t) : ∃ m, ((List.range n).map fun (k : Nat) => MV.int (a + (k : Int) * c))[i]? = some m ∧ VR G X h m v := by
  obtain ⟨t, rfl⟩ := e
  refine ⟨.int (a + i * c), ?_, vr_int'⟩
  rw [List.getElem?_map, List.getElem?_range hi]
  rfl
theorem itb_range {A : Around} {E : Value → Shared → Prop} (hh : A.handled = none) (I : Inv G Z H s.heap) {r : Addr} {a b c : Int} {t u v : Tok} (hr : IsRange s.heap r a b c t u v) (hs : Builtin.Range.small a b c = true) (h0 : 0 ≤ Builtin.Range.rangeSize a b c) :
    wpAny (model G.prog G.w) A (pyIter (.ref r)) (ItQ G A Z H s (rangeL a b c)) E s ∧ Lsb G Z H (rangeL a b c) (.ref r) s := by
  have hn : Builtin.Range.rangeSize a b c = ((Builtin.Range.rangeSize a b c).toNat : Int) := by lia
  have ln : (rangeL a b c).length = (Builtin.Range.rangeSize a b c).toNat := by unfold rangeL; simp
  refine ⟨?_, ⟨fun A E Q hh hl h => ?_⟩⟩
  · have W := Walks.range (prog := G.prog) (w := G.w) hh s.heap.objs.size a c (Builtin.Range.rangeSize a b c).toNat
    have W' : Walks G.prog G.w A s.heap.objs.size [s.heap.objs.size] [s.heap.objs.size] (Builtin.Range.rangeSize a b c).toNat (fun i v => i < (Builtin.Range.rangeSize a b c).toNat ∧ ∃ t, v = .int (a + i * c) t)
        (fun i h => IsRangeIter h s.heap.objs.size (a + (i : Nat) * c) (((Builtin.Range.rangeSize a b c).toNat : Int) - (i : Nat)) c) := { W with item := fun i s Q E hi st hQ => W.item i s Q E hi st fun v h' tk p => hQ v h' tk ⟨hi, p⟩ }
    rw [← ln] at W'
    refine wpAny_pyIter_range hr hs (Itr.new (k := s.toks) (fp := [s.heap.objs.size]) I W' ?_ (fun b m => ?_) (fun i v e => by have := e.1; rw [ln] at this; exact range_get this e.2) (Heap.get?_push_size _ rfl) (fun i h st => ⟨_, st⟩))
    · show IsRangeIter _ _ _ _ _
      rw [ln, ← hn]
      have e1 : a + ((0 : Nat) : Int) * c = a := by simp
      have e2 : Builtin.Range.rangeSize a b c - ((0 : Nat) : Int) = Builtin.Range.rangeSize a b c := by simp
      rw [e1, e2]
      exact Heap.get?_push_size _ rfl
    · rcases List.mem_cons.mp m with rfl | m
      · exact .inl rfl
      · cases m
  · rw [ln] at hl
    refine call_list_range hh hr hs hn (by lia) fun h' tk acc' c' hk e hi => h h' tk c' acc' hk e ?_
    refine vrs_of_get ?_ fun i v e => ?_
    · rw [ln, Array.length_toList]; exact hi.1
    · have hi' : i < acc'.size := by
        rw [← Array.length_toList]; exact (List.getElem?_eq_some_iff.mp e).1
      exact range_get (hi.1 ▸ hi') (hi.2 i v (by rw [← Array.getElem?_toList]; exact e))
theorem itb_rev {A : Around} {E : Value → Shared → Prop} (hh : A.handled = none) (I : Inv G Z H s.heap) {l : Addr} {n : Nat} {vs : Array Value} {xs : List MV} (g : s.heap.get? l = some (lobj vs n)) (ha : l ∉ keys H ++ Z) (r : VRs G (keys H ++ Z) s.heap xs vs.toList) :
    wpAny (model G.prog G.w) A (call (.type "reversed") [.ref l]) (fun x s₁ => wpAny (model G.prog G.w) A (pyIter x) (ItQ G A Z H s xs.reverse) E s₁) E s := by
  have ln := vrs_len r
  rw [Array.length_toList] at ln
  have hl : s.heap.IsList l vs := ⟨_, g, rfl, _, rfl⟩
  have hne : l ≠ s.heap.objs.size := Nat.ne_of_lt (Heap.lt_size g)
  refine call_reversed_list hl ?_
  have hit : (s.heap.push (revObj l ((vs.size : Int) - 1))).IsRevIter s.heap.objs.size l ((vs.size : Int) - 1) := ⟨_, Heap.get?_push_size _ rfl, rfl, rfl⟩
  refine wpAny_pyIter_revIter hit ?_
  have W := Walks.listRev (prog := G.prog) (w := G.w) hh s.heap.objs.size l hne vs
  have e2 : vs.size = xs.reverse.length := by rw [List.length_reverse, ln]
  have W' : Walks G.prog G.w A s.heap.objs.size [s.heap.objs.size, l] [s.heap.objs.size] vs.size (fun i v => i < vs.size ∧ vs[vs.size - 1 - i]? = some v)
      (fun i h => i ≤ vs.size ∧ h.IsRevIter s.heap.objs.size l ((vs.size : Int) - 1 - (i : Int)) ∧ h.IsList l vs) := { W with item := fun i s Q E hi st hQ => W.item i s Q E hi st fun v h' tk p => hQ v h' tk ⟨hi, p⟩ }
  rw [e2] at W'
  refine Itr.new (k := s.toks) (fp := [s.heap.objs.size, l]) I W' ⟨Nat.zero_le _, ?_, ⟨_, Heap.get?_push_of_some _ g, rfl, _, rfl⟩⟩ (fun b m => ?_) (fun i v e => ?_) (Heap.get?_push_size _ rfl) (fun i h st => let ⟨o, e, _⟩ := st.2.1; ⟨o, e⟩)
  · rw [← e2]; simpa using hit
  · rcases List.mem_cons.mp m with rfl | m
    · exact .inl rfl
    · rcases List.mem_cons.mp m with rfl | m
      · exact .inr ⟨ha, _, g, by intro v; nofun⟩
      · cases m
  · obtain ⟨hi, e⟩ := e
    rw [← e2] at hi e
    have hj : vs.size - 1 - i < xs.length := by lia
    obtain ⟨v', e1, e3⟩ := vrs_get r (List.getElem?_eq_getElem hj)
    rw [Array.getElem?_toList, e] at e1
    cases e1
    refine ⟨_, ?_, e3⟩
    rw [List.getElem?_reverse (by lia), ← ln, List.getElem?_eq_getElem hj]
end
end Mine
namespace Mine
variable {G : Stat}
abbrev BV (G : Stat) (Z : List Addr) (H : MH) (s : Shared) (Q : Bool → MH → Prop) : Bool → Shared → Prop := fun b s' => ∃ H', Q b H' ∧ Tr G Z H s H' s'
noncomputable def EvS (G : Stat) (e : ME) : Prop := ∀ {d : Nat} {C : Ctx} {env : Env} {F : FP} {Z : List Addr} {l : Loc} {H : MH} {s : Shared} {A : Around} {E : Value → Shared → Prop} {Q : MV → MH → Prop},
  okE C e = true → Room A d → FR G C env F Z l H s.heap → Inv G Z H s.heap → ev G d e C l H Q → wpAny (model G.prog G.w) A (eval (den C e) env) (PV G Z H s Q) E s
noncomputable def EvT (G : Stat) (e : ME) : Prop := ∀ {d : Nat} {C : Ctx} {env : Env} {F : FP} {Z : List Addr} {l : Loc} {H : MH} {s : Shared} {A : Around} {E : Value → Shared → Prop} {Q : Bool → MH → Prop},
  okE C e = true → Room A d → FR G C env F Z l H s.heap → Inv G Z H s.heap → evT G d e C l H (ev G d e C l H) Q → wpAny (model G.prog G.w) A (isTrue (den C e) env (eval (den C e) env)) (BV G Z H s Q) E s
noncomputable def EvsS (G : Stat) (es : MEs) : Prop := ∀ {d : Nat} {C : Ctx} {env : Env} {F : FP} {Z : List Addr} {l : Loc} {H : MH} {s : Shared} {A : Around} {E : Value → Shared → Prop} {Q : List MV → MH → Prop},
  okEs C es = true → Room A d → FR G C env F Z l H s.heap → Inv G Z H s.heap → evs G d es C l H Q → wpAny (model G.prog G.w) A (spliced ((dens C es).map fun e => (false, eval e env))) (PVs G Z H s Q) E s
noncomputable def EvTs (G : Stat) (es : MEs) : Prop := ∀ {d : Nat} {op : BoolOp} {C : Ctx} {env : Env} {F : FP} {Z : List Addr} {l : Loc} {H : MH} {s : Shared} {A : Around} {E : Value → Shared → Prop} {Q : Bool → MH → Prop},
  okEs C es = true → Room A d → FR G C env F Z l H s.heap → Inv G Z H s.heap → evTs G d op es C l H Q → wpAny (model G.prog G.w) A (allTrue op (dens C es) env) (BV G Z H s Q) E s
noncomputable def EvB (G : Stat) (es : MEs) : Prop := ∀ {d : Nat} {op : BoolOp} {C : Ctx} {env : Env} {F : FP} {Z : List Addr} {l : Loc} {H : MH} {s : Shared} {A : Around} {E : Value → Shared → Prop} {Q : MV → MH → Prop} {p : Pos},
  okEs C es = true → Room A d → FR G C env F Z l H s.heap → Inv G Z H s.heap → evB G d op es C l H Q → wpAny (model G.prog G.w) A (eval (.BoolOp op (dens C es) p) env) (PV G Z H s Q) E s
noncomputable def EvA (G : Stat) (es : MEs) : Prop := ∀ {d : Nat} {C : Ctx} {env : Env} {F : FP} {Z : List Addr} {l : Loc} {H : MH} {s : Shared} {A : Around} {E : Value → Shared → Prop} {Q : Bool → MH → Prop},
  okEs C es = true → Room A d → FR G C env F Z l H s.heap → Inv G Z H s.heap → evA G d es C l H Q →
    wpAny (model G.prog G.w) A (forIn (dens C es) true fun c r => if r = true then do let ok ← isTrue c env (eval c env); pure (ForInStep.yield ok) else pure (ForInStep.yield r)) (BV G Z H s Q) E s
section
variable {d : Nat} {C : Ctx} {env : Env} {F : FP} {Z : List Addr} {l : Loc} {H H₁ : MH} {s s₁ : Shared} {A : Around} {E : Value → Shared → Prop} {Q : MV → MH → Prop} {p : Pos}
theorem EvS.use {e : ME} (he : EvS G e) (ok : okE C e = true) (rm : Room A d) (R : FR G C env F Z l H s.heap) (I : Inv G Z H s.heap) {K : MV → MH → Prop} (hk : ev G d e C l H K) {R' : Value → Shared → Prop}
    (cont : ∀ v s₁ m H₁, K m H₁ → Tr G Z H s H₁ s₁ → VR G (keys H₁ ++ Z) s₁.heap m v → FR G C env F Z l H₁ s₁.heap → R' v s₁) : wpAny (model G.prog G.w) A (eval (den C e) env) R' E s :=
  wpAny_mono (he ok rm R I hk) (fun v s₁ ⟨m, H₁, q, T, r⟩ => cont v s₁ m H₁ q T r (R.tr I T)) fun _ _ x => x
theorem EvT.use {e : ME} (he : EvT G e) (ok : okE C e = true) (rm : Room A d) (R : FR G C env F Z l H s.heap) (I : Inv G Z H s.heap) {K : Bool → MH → Prop} (hk : evT G d e C l H (ev G d e C l H) K) {R' : Bool → Shared → Prop}
    (cont : ∀ b s₁ H₁, K b H₁ → Tr G Z H s H₁ s₁ → FR G C env F Z l H₁ s₁.heap → R' b s₁) : wpAny (model G.prog G.w) A (isTrue (den C e) env (eval (den C e) env)) R' E s :=
  wpAny_mono (he ok rm R I hk) (fun b s₁ ⟨H₁, q, T⟩ => cont b s₁ H₁ q T (R.tr I T)) fun _ _ x => x
theorem EvsS.use {es : MEs} (he : EvsS G es) (ok : okEs C es = true) (rm : Room A d) (R : FR G C env F Z l H s.heap) (I : Inv G Z H s.heap) {K : List MV → MH → Prop} (hk : evs G d es C l H K) {R' : List Value → Shared → Prop}
    (cont : ∀ vs s₁ ms H₁, K ms H₁ → Tr G Z H s H₁ s₁ → VRs G (keys H₁ ++ Z) s₁.heap ms vs → FR G C env F Z l H₁ s₁.heap → R' vs s₁) : wpAny (model G.prog G.w) A (spliced ((dens C es).map fun e => (false, eval e env))) R' E s :=
  wpAny_mono (he ok rm R I hk) (fun v s₁ ⟨m, H₁, q, T, r⟩ => cont v s₁ m H₁ q T r (R.tr I T)) fun _ _ x => x
theorem BV.after {Q : Bool → MH → Prop} {b : Bool} {s₂ : Shared} (I : Inv G Z H s.heap) (T : Tr G Z H s H₁ s₁) (h : BV G Z H₁ s₁ Q b s₂) : BV G Z H s Q b s₂ := let ⟨H', a, U⟩ := h; ⟨H', a, T.trans I U⟩
theorem pq_pv {K : MV → Prop} {v : Value} (I : Inv G Z H s.heap) (T : Tr G Z H s H₁ s₁) {s₂ : Shared} (h : PQ G Z H₁ s₁ K v s₂) (hq : ∀ m, K m → Q m H₁) : PV G Z H s Q v s₂ :=
  PV.after I T (h.mono fun m H' ⟨a, b⟩ => b ▸ hq m a)
theorem Room.cl (rm : Room A d) : A.units + 64 < cLine := by have h := rm.units; have : cLine = 9900 := by decide
                                                             lia
theorem s_bin {op : Operator} {a b : ME} (ha : EvS G a) (hb : EvS G b) : EvS G (.bin op a b p) := fun ok rm R I hk => by
  rw [tz, Bool.and_eq_true] at ok
  rw [b0] at hk
  refine wpAny_BinOp (ha.use ok.1 rm R I hk fun va s₁ ma H₁ hk T₁ ra R₁ => hb.use ok.2 rm R₁ T₁.inv hk fun vb s₂ mb H₂ hk T₂ rb R₂ => ?_)
  exact wpAny_mono (bin_sound T₂.inv (T₂.vr T₁.inv ra) rb hk) (fun v s₃ h => pq_pv I (T₁.trans I T₂) h fun m h => h) fun _ _ x => x
theorem s_rep {a n : ME} {m : Bool} (ha : EvS G a) (hn : EvS G n) : EvS G (.rep a n m p) := fun ok rm R I hk => by
  rw [v6, Bool.and_eq_true] at ok
  rw [ba] at hk
  refine wpAny_BinOp (ha.use ok.1 rm R I hk fun va s₁ ma H₁ hk T₁ ra R₁ => hn.use ok.2 rm R₁ T₁.inv hk fun vb s₂ mb H₂ hk T₂ rb R₂ => ?_)
  obtain ⟨xs, rfl, hk'⟩ := lW_of hk
  cases xs with
  | nil => exact False.elim hk'
  | cons x xs =>
    have hr := T₂.vr T₁.inv ra
    cases xs with
    | cons y xs => exact False.elim hk'
    | nil => exact wpAny_mono (iW_use (fun v => wpAny (model G.prog G.w) _ (binaryOp .Mult va v) (PV G _ _ s₂ _) _ s₂) rb hk' fun k t hk => rep_sound T₂.inv hr vr_int' hk.1 hk.2) (fun v s₃ h => h.after I (T₁.trans I T₂)) fun _ _ x => x
theorem s_un {op : UnaryOp} {a : ME} (ha : EvS G a) : EvS G (.un op a p) := fun ok rm R I hk => by
  rw [rh] at ok
  rw [bb] at hk
  refine wpAny_UnaryOp (ha.use ok rm R I hk fun va s₁ ma H₁ hk T₁ ra R₁ => ?_)
  exact wpAny_mono (un_sound T₁.inv ra hk) (fun v s₃ h => pq_pv I T₁ h fun m h => h) fun _ _ x => x
theorem s_cmp {op : CmpOp} {a b : ME} (ha : EvS G a) (hb : EvS G b) : EvS G (.cmp op a b p) := fun ok rm R I hk => by
  rw [rq, Bool.and_eq_true] at ok
  rw [bd] at hk
  refine wpAny_Compare1 (ha.use ok.1 rm R I hk fun va s₁ ma H₁ hk T₁ ra R₁ => hb.use ok.2 rm R₁ T₁.inv hk fun vb s₂ mb H₂ hk T₂ rb R₂ => ?_) (no_mark _ _ _)
  refine wpAny_mono (cmp_sound rm.cl T₂.inv (T₂.vr T₁.inv ra) rb hk) (fun v s₃ h => ?_) fun _ _ x => x
  obtain ⟨b, rfl, hq, T₃⟩ := h
  exact ⟨_, _, hq, (T₁.trans I T₂).trans I T₃, by unfold VR; rfl⟩
theorem t_cmp {op : CmpOp} {a b : ME} (ha : EvS G a) (hb : EvS G b) : EvT G (.cmp op a b p) := fun ok rm R I hk => by
  rw [rq, Bool.and_eq_true] at ok
  rw [am] at hk
  refine wpAny_isTrue_Compare1 (ha.use ok.1 rm R I hk fun va s₁ ma H₁ hk T₁ ra R₁ => hb.use ok.2 rm R₁ T₁.inv hk fun vb s₂ mb H₂ hk T₂ rb R₂ => ?_) (no_mark _ _ _)
  refine wpAny_mono (cmp_sound rm.cl T₂.inv (T₂.vr T₁.inv ra) rb hk) (fun v s₃ h => ?_) fun _ _ x => x
  obtain ⟨b, rfl, hq, T₃⟩ := h
  exact wpAny_truthy_bool ⟨_, hq, (T₁.trans I T₂).trans I T₃⟩
theorem t_not {a : ME} (ha : EvT G a) : EvT G (.un .Not a p) := fun ok rm R I hk => by
  rw [rh] at ok
  rw [bz] at hk
  exact wpAny_isTrue_Not (ha.use ok rm R I hk fun b s₁ H₁ hk T₁ R₁ => ⟨_, hk, T₁⟩)
theorem s_ite {t a b : ME} (ht : EvT G t) (ha : EvS G a) (hb : EvS G b) : EvS G (.ite t a b p) := fun ok rm R I hk => by
  rw [rp, Bool.and_eq_true, Bool.and_eq_true] at ok
  rw [bc] at hk
  refine wpAny_IfExp (ht.use ok.1.1 rm R I hk fun c s₁ H₁ hk T₁ R₁ => ?_)
  cases c with
  | true => exact wpAny_mono (ha ok.1.2 rm R₁ T₁.inv hk) (fun v s₂ h => h.after I T₁) fun _ _ x => x
  | false => exact wpAny_mono (hb ok.2 rm R₁ T₁.inv hk) (fun v s₂ h => h.after I T₁) fun _ _ x => x
theorem t_ite {t a b : ME} (ht : EvT G t) (ha : EvT G a) (hb : EvT G b) : EvT G (.ite t a b p) := fun ok rm R I hk => by
  rw [rp, Bool.and_eq_true, Bool.and_eq_true] at ok
  rw [c6] at hk
  refine isTrue_IfExp (ht.use ok.1.1 rm R I hk fun c s₁ H₁ hk T₁ R₁ => ?_)
  cases c with
  | true => exact wpAny_mono (ha ok.1.2 rm R₁ T₁.inv hk) (fun v s₂ h => BV.after I T₁ h) fun _ _ x => x
  | false => exact wpAny_mono (hb ok.2 rm R₁ T₁.inv hk) (fun v s₂ h => BV.after I T₁ h) fun _ _ x => x
theorem s_cn : EvS G (.cn p) := fun ok rm R I hk => wpAny_Constant_none ⟨_, _, hk, Tr.refl I, by unfold VR; rfl⟩
theorem s_cb {b : Bool} : EvS G (.cb b p) := fun ok rm R I hk => wpAny_Constant_bool ⟨_, _, hk, Tr.refl I, by unfold VR; rfl⟩
theorem s_ci {b : Int} : EvS G (.ci b p) := fun ok rm R I hk => wpAny_Constant_int (PV.int I hk)
theorem s_cs {b : Str} : EvS G (.cs b p) := fun ok rm R I hk => wpAny_Constant_str (PV.str I hk)
theorem s_v {i : Nat} : EvS G (.v i p) := fun {d C env F Z l H s A E Q} ok rm R I hk => by
  rw [ad] at hk
  split at hk
  · rename_i v e
    exact load_slot R e fun v r => ⟨_, _, hk, Tr.refl I, r⟩
  · exact hk.elim
theorem s_gc (hS : StatOk G) {x : Str} {v : MV} : EvS G (.gc x v p) := fun ok rm R I hk => by
  rw [ty] at ok
  rw [az] at hk
  obtain ⟨⟨rv, e, r⟩, hk⟩ := hk
  exact load_glob hS I R ok e ⟨_, _, hk, Tr.refl I, r _ _⟩
theorem s_ls {m : Bool} {es : MEs} (h : EvsS G es) : EvS G (.ls m es p) := fun ok rm R I hk => by
  rw [vc] at ok
  rw [bg] at hk
  refine wpAny_List ?_
  rw [args_eq]
  refine h.use ok rm R I hk fun vs s₁ ms H₁ hk T₁ r R₁ => ⟨by rw [vrs_len r, sizeLine_eq]; have := hk.1; lia, PV.after I T₁ ?_⟩
  exact newL_pv (vs := vs.toArray) T₁.inv (Grew.push _ _) rfl rfl (fresh_size _) (Heap.get?_push_size _ rfl) (by simpa using r) hk.2
theorem s_tp {es : MEs} (h : EvsS G es) : EvS G (.tp es p) := fun ok rm R I hk => by
  rw [vd] at ok
  rw [bh] at hk
  refine wpAny_Tuple ?_
  rw [args_eq]
  refine h.use ok rm R I hk fun vs s₁ ms H₁ hk T₁ r R₁ => ⟨by rw [vrs_len r, sizeLine_eq]; have := hk.1; lia, ?_⟩
  refine PV.after I T₁ ⟨_, _, hk.2, Tr.push T₁.inv _ _, ?_⟩
  unfold VR
  exact ⟨_, _, vs.toArray, rfl, T₁.inv.off (fresh_size _), Heap.get?_push_size _ rfl, VRs.keep (fun a o _ _ e => Heap.get?_push_of_some _ e) (Sub.refl _ _) _ _ (by simpa using r)⟩
theorem s_ix {a i : ME} (ha : EvS G a) (hi : EvS G i) : EvS G (.ix a i p) := fun ok rm R I hk => by
  rw [ve, Bool.and_eq_true] at ok
  rw [bj] at hk
  refine Subscript_ (ha.use ok.1 rm R I hk fun va s₁ ma H₁ hk T₁ ra R₁ => hi.use ok.2 rm R₁ T₁.inv hk fun vi s₂ mi H₂ hk T₂ ri R₂ => ?_)
  have S := ix_sound (prog := G.prog) (w := G.w) (E := by assumption) (A := by assumption) T₂.inv (T₂.vr T₁.inv ra) ri hk
  obtain ⟨S, T, id, hT, hl⟩ := S
  exact tail_any hT hl (wpAny_mono S (fun v s₃ h => pq_pv I (T₁.trans I T₂) h fun m h => h) fun _ _ x => x) (no_slice _ _ _ _)
theorem sl_go {K : MV → MH → Prop} {H₃ : MH} {s₃ : Shared} {a lo hi : MV} {va vl vu : Value} {value : Expr} {q : Pos} {o1 o2 : Option Expr} (I : Inv G Z H s.heap) (T : Tr G Z H s H₃ s₃)
    (ra : VR G (keys H₃ ++ Z) s₃.heap a va) (rl : VR G (keys H₃ ++ Z) s₃.heap lo vl) (ru : VR G (keys H₃ ++ Z) s₃.heap hi vu) (hk : slW H₃ a lo hi fun v => K v H₃) :
    wpAny (model G.prog G.w) A (subscriptTail value (.Slice o1 o2 none q) va (.ref s₃.heap.objs.size)) (PV G Z H s K) E { s₃ with heap := s₃.heap.push { cls := .type "slice", data := .fields #[vl, vu, .none] } } := by
  obtain ⟨S, Ty, id, hT, hl⟩ := sl_sound (prog := G.prog) (w := G.w) (E := E) (A := A) T.inv ra rl ru hk
  exact tail_any hT hl (wpAny_mono S (fun v s₃ h => pq_pv I T h fun m h => h) fun _ _ x => x) rfl
theorem s_slL {a lo : ME} {q : Pos} (ha : EvS G a) (hi : EvS G lo) : EvS G (.slL a lo q p) := fun ok rm R I hk => by
  rw [vg, Bool.and_eq_true] at ok
  rw [bk] at hk
  refine Subscript_ (ha.use ok.1 rm R I hk fun va s₁ ma H₁ hk T₁ ra R₁ => ?_)
  refine wpAny_Slice (hi.use ok.2 rm R₁ T₁.inv hk fun vi s₂ mi H₂ hk T₂ ri R₂ => wpAny_pure (wpAny_pure ?_))
  exact sl_go I (T₁.trans I T₂) (T₂.vr T₁.inv ra) ri (by unfold VR; rfl) hk
theorem s_slU {a lo : ME} {q : Pos} (ha : EvS G a) (hi : EvS G lo) : EvS G (.slU a lo q p) := fun ok rm R I hk => by
  rw [vh, Bool.and_eq_true] at ok
  rw [af] at hk
  refine Subscript_ (ha.use ok.1 rm R I hk fun va s₁ ma H₁ hk T₁ ra R₁ => ?_)
  refine wpAny_Slice (wpAny_pure (hi.use ok.2 rm R₁ T₁.inv hk fun vi s₂ mi H₂ hk T₂ ri R₂ => wpAny_pure ?_))
  exact sl_go I (T₁.trans I T₂) (T₂.vr T₁.inv ra) (by unfold VR; rfl) ri hk
theorem s_slB {a lo hi : ME} {q : Pos} (ha : EvS G a) (hl : EvS G lo) (hi' : EvS G hi) : EvS G (.slB a lo hi q p) := fun ok rm R I hk => by
  rw [vj, Bool.and_eq_true, Bool.and_eq_true] at ok
  rw [bl] at hk
  refine Subscript_ (ha.use ok.1.1 rm R I hk fun va s₁ ma H₁ hk T₁ ra R₁ => ?_)
  refine wpAny_Slice (hl.use ok.1.2 rm R₁ T₁.inv hk fun vl s₂ mi H₂ hk T₂ rl R₂ => hi'.use ok.2 rm R₂ T₂.inv hk fun vu s₃ mu H₃ hk T₃ ru R₃ => wpAny_pure ?_)
  exact sl_go I ((T₁.trans I T₂).trans I T₃) (T₃.vr T₂.inv (T₂.vr T₁.inv ra)) (T₃.vr T₂.inv rl) ru hk
theorem s_fz {e : ME} (he : EvS G e) : EvS G (.fz e) := fun ok rm R I hk => by
  rw [vx] at ok
  rw [bv] at hk
  rw [tn]
  refine he.use ok rm R I hk fun v s₁ m H₁ hk T₁ r R₁ => ?_
  obtain ⟨a, xs, rfl, ex, hk⟩ := atW_of hk
  rw [vr_ref r]
  refine PV.after I T₁ ⟨_, _, hk, Tr.drop T₁.inv a, ?_⟩
  obtain ⟨n, vs, g, q⟩ := T₁.inv.cells a xs (lookup_mem ex)
  have hk' := lookup_key ex
  unfold VR
  refine ⟨a, n, vs, rfl, fun m => ?_, g, VRs.keep (Keep.refl _ _) (fun b m => .inl ?_) _ _ q⟩
  · rcases List.mem_append.mp m with m | m
    · exact del_not H₁ a m
    · exact T₁.inv.tpk a hk' m
  · rcases List.mem_append.mp m with m | m
    · exact List.mem_append_left _ (del_keys H₁ a b m)
    · exact List.mem_append_right _ m
theorem ss_nil : EvsS G .nil := fun ok rm R I hk => by
  rw [aj] at hk
  exact Calls.spliced_nil ⟨_, _, hk, Tr.refl I, vrs_nil'⟩
theorem ss_cons {e : ME} {es : MEs} (he : EvS G e) (hs : EvsS G es) : EvsS G (.cons e es) := fun ok rm R I hk => by
  rw [ov, Bool.and_eq_true] at ok
  rw [bw] at hk
  refine Calls.spliced_cons (he.use ok.1 rm R I hk fun v s₁ m H₁ hk T₁ r R₁ => hs.use ok.2 rm R₁ T₁.inv hk fun vs s₂ ms H₂ hk T₂ rs R₂ => ?_)
  exact ⟨_, _, hk, T₁.trans I T₂, vrs_cons' (T₂.vr T₁.inv r) rs⟩
theorem ts_nil : EvTs G .nil := fun {d op C env F Z l H s A E Q} ok rm R I hk => by
  rw [ao] at hk
  cases op
  · exact wpAny_allTrue_And_nil ⟨_, hk, Tr.refl I⟩
  · exact wpAny_allTrue_Or_nil ⟨_, hk, Tr.refl I⟩
theorem ts_cons {e : ME} {es : MEs} (he : EvT G e) (hs : EvTs G es) : EvTs G (.cons e es) := fun {d op C env F Z l H s A E Q} ok rm R I hk => by
  rw [ov, Bool.and_eq_true] at ok
  rw [ap] at hk
  cases op
  · refine wpAny_allTrue_And_cons (he.use ok.1 rm R I hk fun b s₁ H₁ hk T₁ R₁ => ?_)
    cases b with
    | false => exact ⟨_, hk, T₁⟩
    | true => exact wpAny_mono (hs ok.2 rm R₁ T₁.inv hk) (fun b s₂ h => BV.after I T₁ h) fun _ _ x => x
  · refine wpAny_allTrue_Or_cons (he.use ok.1 rm R I hk fun b s₁ H₁ hk T₁ R₁ => ?_)
    cases b with
    | true => exact ⟨_, hk, T₁⟩
    | false => exact wpAny_mono (hs ok.2 rm R₁ T₁.inv hk) (fun b s₂ h => BV.after I T₁ h) fun _ _ x => x
theorem as_nil : EvA G .nil := fun ok rm R I hk => by
  rw [c8] at hk
  exact wpAny_pure ⟨_, hk, Tr.refl I⟩
theorem as_false : ∀ {es : MEs} {Q : Bool → Shared → Prop}, Q false s → wpAny (model G.prog G.w) A (forIn (dens C es) false fun c r => if r = true then do let ok ← isTrue c env (eval c env); pure (ForInStep.yield ok) else pure (ForInStep.yield r)) Q E s
  | .nil, Q, h => wpAny_pure h
  | .cons e es, Q, h => by
    rw [re, List.forIn_cons]
    refine wpAny_bind ?_
    rw [if_neg (by decide)]
    exact wpAny_pure (as_false h)
theorem as_cons {e : ME} {es : MEs} (he : EvT G e) (hs : EvA G es) : EvA G (.cons e es) := fun ok rm R I hk => by
  rw [ov, Bool.and_eq_true] at ok
  rw [c9] at hk
  rw [re, List.forIn_cons]
  refine wpAny_bind ?_
  rw [if_pos rfl]
  refine wpAny_bind (he.use ok.1 rm R I hk fun b s₁ H₁ hk T₁ R₁ => wpAny_pure ?_)
  cases b with
  | true => exact wpAny_mono (hs ok.2 rm R₁ T₁.inv hk) (fun b s₂ h => BV.after I T₁ h) fun _ _ x => x
  | false => exact as_false ⟨_, hk, T₁⟩
theorem bs_nil : EvB G .nil := fun ok rm R I hk => by rw [ce] at hk; exact hk.elim
theorem bs_one {e : ME} (he : EvS G e) : EvB G (.cons e .nil) := fun ok rm R I hk => by
  rw [ov, Bool.and_eq_true] at ok
  rw [aq] at hk
  exact BoolOp_one (he ok.1 rm R I hk)
theorem bs_cons {e e₂ : ME} {es : MEs} (he : EvS G e) (hs : EvB G (.cons e₂ es)) : EvB G (.cons e (.cons e₂ es)) := fun {d op C env F Z l H s A E Q p} ok rm R I hk => by
  rw [ov, Bool.and_eq_true] at ok
  rw [au] at hk
  · cases op
    · refine BoolOp_and (he.use ok.1 rm R I hk fun v s₁ m H₁ hk T₁ r R₁ => wpAny_mono (tru_sound T₁.inv r hk) (fun c s₂ h => ?_) fun _ _ x => x)
      obtain ⟨hk, T₂⟩ := h
      cases c with
      | false => exact ⟨_, _, hk, T₁.trans I T₂, T₂.vr T₁.inv r⟩
      | true => exact wpAny_mono (hs ok.2 rm (R₁.tr T₁.inv T₂) T₂.inv hk) (fun v s₃ h => h.after I (T₁.trans I T₂)) fun _ _ x => x
    · refine BoolOp_or (he.use ok.1 rm R I hk fun v s₁ m H₁ hk T₁ r R₁ => wpAny_mono (tru_sound T₁.inv r hk) (fun c s₂ h => ?_) fun _ _ x => x)
      obtain ⟨hk, T₂⟩ := h
      cases c with
      | true => exact ⟨_, _, hk, T₁.trans I T₂, T₂.vr T₁.inv r⟩
      | false => exact wpAny_mono (hs ok.2 rm (R₁.tr T₁.inv T₂) T₂.inv hk) (fun v s₃ h => h.after I (T₁.trans I T₂)) fun _ _ x => x
theorem s_bo {op : BoolOp} {es : MEs} (h : EvB G es) : EvS G (.bo op es p) := fun ok rm R I hk => by
  rw [rj] at ok; rw [ae] at hk
  exact h ok rm R I hk
theorem t_bo {op : BoolOp} {es : MEs} (h : EvTs G es) : EvT G (.bo op es p) := fun ok rm R I hk => by
  rw [rj] at ok; rw [al] at hk
  exact wpAny_isTrue_BoolOp (h ok rm R I hk)
theorem t_plain {e : ME} (he : EvS G e) (h1 : ∀ {C : Ctx} {env : Env} {whole : Sem Value}, isTrue (den C e) env whole = (do let v ← whole; standAt (den C e).pos; holding [v] (truthy v)))
    (h2 : ∀ {d : Nat} {C : Ctx} {l : Loc} {H : MH} {W} {Q : Bool → MH → Prop}, evT G d e C l H W Q = W fun v H₁ => truW H₁ v fun c => Q c H₁) : EvT G e := fun ok rm R I hk => by
  rw [h2] at hk
  refine wpAny_isTrue_value (he.use ok rm R I hk fun v s₁ m H₁ hk T₁ r R₁ => wpAny_mono (tru_sound T₁.inv r hk) (fun c s₂ h => ?_) fun _ _ x => x) h1
  exact ⟨_, h.1, T₁.trans I h.2⟩
end
end Mine
namespace Mine
variable {G : Stat}
section
variable {d : Nat} {C : Ctx} {env : Env} {F : FP} {Z : List Addr} {l : Loc} {H H₁ : MH} {s s₁ : Shared} {A : Around} {E : Value → Shared → Prop} {Q : MV → MH → Prop} {p pn : Pos}
theorem fn_at {a : Addr} (I : Inv G Z H s.heap) (h : FnAt a G.B) : FnAt a s.heap := let ⟨oc, od, fd, sl, e⟩ := h; ⟨oc, od, fd, sl, I.keep _ _ e⟩
theorem calls_go {f : FV} {args : List MV} {kw : List (Str × MV)} {fv : Value} {vs : List Value} {kvs : List (Str × Value)} (rm : Room A d) (I : Inv G Z H s.heap) (hf : FVR G (keys H ++ Z) s.heap f fv)
    (ra : VRs G (keys H ++ Z) s.heap args vs) (rk : KVs G (keys H ++ Z) s.heap kw kvs) (hc : Calls G d f args kw H Q) : wpAny (model G.prog G.w) A (call fv vs kvs) (PV G Z H s Q) E s := by
  refine wpAny_call (codeAny_mono (hc A s Z fv vs kvs rm I hf ra rk) fun r s' h => ?_)
  obtain ⟨v, rfl, h⟩ := h
  exact h
theorem fvr_fn {f : FV} {X : List Addr} {h : Heap} {v : Value} (r : FVR G X h f v) (hf : ∀ a, f = .fn a → FnAt a h) : ∃ q, v = .ref q ∧ FnAt q h := by
  cases f with
  | fn a => exact ⟨a, r, hf a rfl⟩
  | clo k vs =>
    have r' : VR G X h (.clo k vs) v := r
    unfold VR at r'
    obtain ⟨a, o, fd, c, rfl, _, g, e, _⟩ := r'
    obtain ⟨oc, od, dd, sl⟩ := o
    cases e
    exact ⟨a, rfl, oc, od, fd, sl, g⟩
theorem call_pos {es : MEs} {f : FV} {fv : Value} {pos : Pos} (hs : EvsS G es) (ok : okEs C es = true) (rm : Room A d) (R : FR G C env F Z l H s.heap) (I : Inv G Z H s.heap)
    (hf : FVR G (keys H ++ Z) s.heap f fv) (hfa : ∀ a, f = .fn a → FnAt a G.B) (hk : evs G d es C l H fun vs H₁ => Calls G d f vs [] H₁ Q) :
    wpAny (model G.prog G.w) A (callWith pos fv [] (backTo pos (starEach (dens C es) env)) []) (PV G Z H s Q) E s := by
  obtain ⟨q, rfl, _⟩ := fvr_fn hf fun a e => fn_at I (hfa a e)
  rw [args_eq]
  refine callWith_of (P := FnAt q) (by rw [args_any]; rfl) keeps_F (evalArgs_es C es (hs.use ok rm R I hk fun vs s₁ ms H₁ hk T₁ r R₁ => ?_))
  have hf' : FVR G (keys H₁ ++ Z) s₁.heap f (.ref q) := by
    cases f with
    | fn a => exact hf
    | clo k vs => exact T₁.vr I (m := .clo k vs) hf
  obtain ⟨q', e, hq⟩ := fvr_fn hf' fun a e => fn_at T₁.inv (hfa a e)
  cases e
  exact ⟨hq, wpAny_mono (calls_go rm T₁.inv hf' r (show KVs G _ _ [] [] from rfl) hk) (fun v s₂ h => h.after I T₁) fun _ _ x => x⟩
theorem s_cg (hS : StatOk G) {f : Str} {a : Addr} {es : MEs} (hs : EvsS G es) : EvS G (.cg f a pn es p) := fun ok rm R I hk => by
  rw [vk, Bool.and_eq_true] at ok
  rw [ag] at hk
  obtain ⟨⟨e, ha⟩, hk⟩ := hk
  rw [t8, arm_eval_Call_Name']
  refine wpAny_bind (load_glob hS I R ok.1 e ?_)
  exact call_pos (f := .fn a) hs ok.2 rm R I rfl (fun b e => by cases e; exact ha) hk
theorem s_cv {i : Nat} {es : MEs} (hs : EvsS G es) : EvS G (.cv i pn es p) := fun ok rm R I hk => by
  rw [vp] at ok
  rw [bp] at hk
  split at hk
  · rename_i k cs e
    rw [td, arm_eval_Call_Name']
    refine wpAny_bind (load_slot R e fun v r => ?_)
    exact call_pos (f := .clo k cs) hs ok rm R I r (fun b e => by cases e) hk
  · exact hk.elim
theorem s_cgk (hS : StatOk G) {f : Str} {a : Addr} {es : MEs} {k : Str} {e : ME} {pk : Pos} (hs : EvsS G es) (he : EvS G e) : EvS G (.cgk f a pn es k e pk p) := fun {d C env F Z l H s A E Q} ok rm R I hk => by
  rw [vm, Bool.and_eq_true, Bool.and_eq_true, Bool.and_eq_true] at ok
  rw [bn] at hk
  obtain ⟨⟨e1, ha⟩, hk⟩ := hk
  rw [tc, arm_eval_Call_Name']
  refine wpAny_bind (load_glob hS I R ok.1.1.1 e1 ?_)
  rw [args_eq]
  cases es with
  | nil => exact absurd ok.2 (by decide)
  | cons e0 es =>
    refine callWith_of (P := FnAt a) (by rw [args_any]; rfl) keeps_F ?_
    refine evalArgs_kw rfl (hs.use ok.1.1.2 rm R I hk fun vs s₁ ms H₁ hk T₁ r R₁ => ?_)
    refine wpAny_evalAll_cons (wpAny_bind (he.use ok.1.2 rm R₁ T₁.inv hk fun v s₂ m H₂ hk T₂ r₂ R₂ => wpAny_bind (wpAny_standAt (wpAny_pure (wpAny_evalAll_nil ?_)))))
    have hf' : FVR G (keys H₂ ++ Z) s₂.heap (.fn a) (.ref a) := rfl
    refine ⟨fn_at T₂.inv ha, wpAny_mono (calls_go rm T₂.inv hf' (T₂.vrs T₁.inv r) (kvs := [(k, v)]) (show KVs G _ _ [(k, _)] [(k, v)] from ⟨v, [], rfl, r₂, rfl⟩) hk) (fun v s₃ h => h.after I (T₁.trans I T₂)) fun _ _ x => x⟩
theorem s_bi (hS : StatOk G) {b : BI} {es : MEs} (hs : EvsS G es) : EvS G (.bi b pn es p) := fun ok rm R I hk => by
  rw [vq, Bool.and_eq_true] at ok
  rw [br] at hk
  rw [te, arm_eval_Call_Name']
  refine wpAny_bind (load_built hS I R ok.1 (hS.bi b) ?_)
  rw [args_eq]
  refine Calls.callWith_builtin (args_any _ _ _) (evalArgs_es _ es (hs.use ok.2 rm R I hk fun vs s₁ ms H₁ hk T₁ r R₁ => ?_))
  exact wpAny_mono (bi_sound rm.hd T₁.inv r hk) (fun v s₂ h => pq_pv I T₁ h fun m h => h) fun _ _ x => x
theorem base_plain {o : ME} {name : Str} {whole : Sem Value} (h : o.plainBase = true) : attributeBase (den C o) name env whole = whole := by
  cases o <;> first | rfl | cases h
theorem s_mt {o : ME} {m : MI} {pa : Pos} {es : MEs} {mu : Bool} (ho : EvS G o) (hs : EvsS G es) : EvS G (.mt o m pa es mu p) := fun {d C env F Z l H s A E Q} ok rm R I hk => by
  rw [vw, Bool.and_eq_true, Bool.and_eq_true, Bool.and_eq_true, Bool.and_eq_true] at ok
  obtain ⟨⟨⟨⟨ok1, ok2⟩, ok3⟩, ok4⟩, ok5⟩ := ok
  rw [bt] at hk
  rw [ti, arm_eval_Call, base_plain ok3]
  refine wpAny_bind (ho.use ok1 rm R I hk fun vo s₁ mo H₁ hk T₁ ro R₁ => ?_)
  obtain ⟨ht, hk⟩ := hk
  refine wpAny_bind (wpAny_standAt ?_)
  have hform : methodCallForm ((dens C es).length + ([] : List Keyword).length) (backTo p (starEach (dens C es) env)) (backToKw p (keywordEach [] env)) = true := by
    rw [args_eq]
    unfold methodCallForm
    rw [Bool.and_eq_true, Bool.and_eq_true]
    refine ⟨⟨?_, rfl⟩, ?_⟩
    · rw [List.all_map]; exact List.all_eq_true.mpr fun _ _ => rfl
    · rw [rg]
      have := of_decide_eq_true ok5
      simp [keywordEach, backToKw]; lia
  have hpos : methodCallPos true (den C o) env pa p = pure p := by unfold methodCallPos; rw [ok4]; rfl
  unfold methodCall
  rw [hform]
  refine wpAny_bind (wpAny_holding ?_)
  show wpAny _ _ (getMethod vo m.name _) _ _ _
  refine mt_get T₁.inv ro ht ?_
  refine wpAny_bind (wpAny_of_eq hpos ?_)
  rw [args_eq]
  refine Calls.callWith_builtin (args_any _ _ _) (evalArgs_es _ es (hs.use ok2 rm R₁ T₁.inv hk fun vs s₂ ms H₂ hk T₂ r R₂ => ?_))
  exact wpAny_mono (mt_call T₂.inv (T₂.vr T₁.inv ro) r hk) (fun v s₃ h => h.after I (T₁.trans I T₂)) fun _ _ x => x
noncomputable def EvI (G : Stat) (it : MIt) : Prop := ∀ {d : Nat} {C : Ctx} {env : Env} {F : FP} {Z : List Addr} {l : Loc} {H : MH} {s : Shared} {A : Around} {E : Value → Shared → Prop} {Q : List MV → MH → Prop},
  okI C it = true → Room A d → FR G C env F Z l H s.heap → Inv G Z H s.heap → evI G d it C l H Q →
    wpAny (model G.prog G.w) A (eval (denI C it) env) (fun x s₁ => wpAny (model G.prog G.w) A (pyIter x) (ItP G A Z H s Q) E s₁) E s
noncomputable def EvL (G : Stat) (it : MIt) : Prop := ∀ {d : Nat} {C : Ctx} {env : Env} {F : FP} {Z : List Addr} {l : Loc} {H : MH} {s : Shared} {A : Around} {E : Value → Shared → Prop} {Q : List MV → MH → Prop},
  okI C it = true → it.noRev = true → Room A d → FR G C env F Z l H s.heap → Inv G Z H s.heap → evI G d it C l H Q →
    wpAny (model G.prog G.w) A (eval (denI C it) env) (fun x s₁ => ∃ xs H₁, Q xs H₁ ∧ Tr G Z H s H₁ s₁ ∧ Lsb G Z H₁ xs x s₁) E s
theorem itp_of {Q : List MV → MH → Prop} {xs : List MV} (T : Tr G Z H s H₁ s₁) (hq : Q xs H₁) {x : Value} (h : wpAny (model G.prog G.w) A (pyIter x) (ItQ G A Z H₁ s₁ xs) E s₁) :
    wpAny (model G.prog G.w) A (pyIter x) (ItP G A Z H s Q) E s₁ := wpAny_mono h (fun v s₂ h => ⟨xs, H₁, s₁, hq, T, h⟩) fun _ _ x => x
theorem it_both {Q : List MV → MH → Prop} {m : MV} {v : Value} (hh : A.handled = none) (I : Inv G Z H s.heap) (r : VR G (keys H ++ Z) s.heap m v) (hk : itW H m Q) :
    ∃ xs H₁, Q xs H₁ ∧ Tr G Z H s H₁ s ∧ wpAny (model G.prog G.w) A (pyIter v) (ItQ G A Z H₁ s xs) E s ∧ Lsb G Z H₁ xs v s := by
  cases m with
  | list xs =>
    obtain ⟨a, n, vs, rfl, hx, g, q⟩ := vr_list r
    exact ⟨xs, H, hk.2, Tr.refl I, itb_at hh I g hx q⟩
  | str x =>
    obtain ⟨t, rfl⟩ := vr_str r
    exact ⟨_, H, hk.2, Tr.refl I, itb_str hh I⟩
  | ref a =>
    rw [vr_ref r]
    obtain ⟨xs, ex, hk⟩ := optW_of hk
    have T := Tr.drop I a
    obtain ⟨n, vs, g, q⟩ := I.cells a xs (lookup_mem ex)
    refine ⟨xs, _, hk.2, T, itb_at hh T.inv g (fun m => ?_) (VRs.keep (Keep.refl _ _) (fun b m => .inl ?_) _ _ q)⟩
    · rcases List.mem_append.mp m with m | m
      · exact del_not H a m
      · exact I.tpk a (lookup_key ex) m
    · rcases List.mem_append.mp m with m | m
      · exact List.mem_append_left _ (del_keys H a b m)
      · exact List.mem_append_right _ m
  | none | bool _ | int _ | tup _ | clo _ _ => exact False.elim hk
theorem rb1 {x : Int} (h : -2 ^ 62 < x) (h' : x < 2 ^ 62) : -2 ^ 63 ≤ x ∧ x < 2 ^ 63 := ⟨by lia, by lia⟩
theorem rb2 {c : Int} (h : 0 < c) (h' : c < 2 ^ 20) : -2 ^ 63 ≤ c ∧ c < 2 ^ 63 := ⟨by lia, by lia⟩
theorem rb3 {b c : Int} (h : 0 < c) (h' : c < 2 ^ 20) (b1 : -2 ^ 62 < b) (b2 : b < 2 ^ 62) : -2 ^ 63 ≤ b + (c - 1) ∧ b + (c - 1) < 2 ^ 63 := ⟨by lia, by lia⟩
theorem rb4 {a b q : Int} (a1 : -2 ^ 62 < a) (b2 : b < 2 ^ 62) (h : 0 ≤ q) (h' : q ≤ b - a - 1) : -2 ^ 63 ≤ q + 1 ∧ q + 1 < 2 ^ 63 := ⟨by lia, by lia⟩
theorem rangeSize_bound {a b c : Int} (ha : intOk a) (hb : intOk b) (h0 : 0 < c) (h1 : c < 2 ^ 20) : 0 ≤ Builtin.Range.rangeSize a b c ∧ Builtin.Range.small a b c = true := by
  obtain ⟨a1, a2⟩ := ha
  obtain ⟨b1, b2⟩ := hb
  have e : Builtin.Range.rangeSize a b c = if a < b then (b - a - 1) / c + 1 else 0 := by
    unfold Builtin.Range.rangeSize
    rw [if_pos h0]
  have d0 : a < b → 0 ≤ (b - a - 1) / c := fun h => Int.ediv_nonneg (by lia) (by lia)
  have d1 : a < b → (b - a - 1) / c ≤ b - a - 1 := fun h => Int.ediv_le_self _ (by lia)
  refine ⟨by rw [e]; split <;> first | exact Int.add_nonneg (d0 (by assumption)) (by decide) | exact Int.le_refl _, ?_⟩
  unfold Builtin.Range.small Builtin.Range.rangeFitsLong
  rw [e]
  simp only [Bool.and_eq_true, Bool.or_eq_true, decide_eq_true_eq, beq_iff_eq, if_pos (show c > 0 from h0)]
  by_cases h : a < b
  · rw [if_pos h]; exact ⟨⟨⟨⟨rb1 a1 a2, rb1 b1 b2⟩, rb2 h0 h1⟩, rb4 a1 b2 (d0 h) (d1 h)⟩, .inr (rb3 h0 h1 b1 b2)⟩
  · rw [if_neg h]; exact ⟨⟨⟨⟨rb1 a1 a2, rb1 b1 b2⟩, rb2 h0 h1⟩, by decide, by decide⟩, .inl rfl⟩
theorem nat_small {z : Int} (h : 0 < z) (h' : z < 2 ^ 20) : z.natAbs < 1073741824 := by lia
theorem rng_both {Q : List MV → Prop} {args : List MV} {vs : List Value} (hh : A.handled = none) (I : Inv G Z H s.heap) (r : VRs G (keys H ++ Z) s.heap args vs) (hk : rngW args Q) :
    wpAny (model G.prog G.w) A (call (.type "range") vs) (fun x s₁ => ∃ xs, Q xs ∧ Tr G Z H s H s₁ ∧ wpAny (model G.prog G.w) A (pyIter x) (ItQ G A Z H s₁ xs) E s₁ ∧ Lsb G Z H xs x s₁) E s := by
  let P : List Value → Prop := fun q => wpAny (model G.prog G.w) A (call (.type "range") q) (fun x s₁ => ∃ xs, Q xs ∧ Tr G Z H s H s₁ ∧ wpAny (model G.prog G.w) A (pyIter x) (ItQ G A Z H s₁ xs) E s₁ ∧ Lsb G Z H xs x s₁) E s
  refine acW_use P r hk fun a m v q r1 r2 hk => ?_
  refine iW_use (fun v => P (v :: q)) r1 hk fun x t hk => ?_
  cases m with
  | nil =>
    rw [vrs_nil r2]
    have hk' : intOk x ∧ Q (rangeL 0 x 1) := hk
    have hb := rangeSize_bound (a := 0) (c := 1) (by unfold intOk; decide) hk'.1 (by decide) (by decide)
    refine call_range_1 ?_
    have T := Tr.push I { cls := .type "range", data := .fields #[.int 0 s.toks, .int x t, .int 1 (s.toks + 1)] } (s.toks + 1 + 1)
    exact ⟨_, hk'.2, T, itb_range hh T.inv (Heap.get?_push_size _ rfl) hb.2 hb.1⟩
  | cons b m =>
    obtain ⟨v₂, q₂, rfl, r3, r4⟩ := vrs_cons r2
    refine a1W_use (fun q => P (.int x t :: v₂ :: q)) r4 hk fun c v₃ r5 hk => ?_
    refine i2W_use (fun v₂ v₃ => P [.int x t, v₂, v₃]) r3 r5 hk fun y z t₂ t₃ hk => ?_
    obtain ⟨⟨ha, hb, hc0, hc1⟩, hk⟩ := hk
    have hB := rangeSize_bound ha hb hc0 hc1
    refine PySem.call_range_3 (Int.ne_of_gt hc0) ?_ (.inl (PyProof.noPylong_small (nat_small hc0 hc1)))
    have T := Tr.push I { cls := .type "range", data := .fields #[.int x t, .int y t₂, .int z t₃] } s.toks
    exact ⟨_, hk, T, itb_range hh T.inv (Heap.get?_push_size _ rfl) hB.2 hB.1⟩
theorem i_it {e : ME} (he : EvS G e) : EvI G (.it e) ∧ EvL G (.it e) := by
  constructor
  rotate_left
  · intro d C env F Z l H s A E Q ok nr rm R I hk
    rw [rz] at ok
    rw [ab] at hk
    refine he.use ok rm R I hk fun v s₁ m H₁ hk T₁ r R₁ => ?_
    obtain ⟨xs, H₂, hq, T₂, h1, h2⟩ := it_both (A := A) (E := E) rm.hd T₁.inv r hk
    exact ⟨xs, H₂, hq, T₁.trans I T₂, h2⟩
  · intro d C env F Z l H s A E Q ok rm R I hk
    rw [rz] at ok
    rw [ab] at hk
    refine he.use ok rm R I hk fun v s₁ m H₁ hk T₁ r R₁ => ?_
    obtain ⟨xs, H₂, hq, T₂, h1, h2⟩ := it_both (A := A) (E := E) rm.hd T₁.inv r hk
    exact itp_of (T₁.trans I T₂) hq h1
theorem i_rng (hS : StatOk G) {es : MEs} (hs : EvsS G es) : EvI G (.rng es pn p) ∧ EvL G (.rng es pn p) := by
  constructor
  · intro d C env F Z l H s A E Q ok rm R I hk
    rw [s0, Bool.and_eq_true] at ok
    rw [ak] at hk
    rw [rf, arm_eval_Call_Name']
    refine wpAny_bind (load_built hS I R ok.1 hS.trange ?_)
    rw [args_eq]
    refine PyProof.Rows.callWith_type (args_any _ _ _) (evalArgs_es _ es (hs.use ok.2 rm R I hk fun vs s₁ ms H₁ hk T₁ r R₁ => ?_))
    refine wpAny_mono (rng_both (E := E) rm.hd T₁.inv r hk) (fun x s₂ h => ?_) fun _ _ x => x
    obtain ⟨xs, hq, T₂, h1, h2⟩ := h
    exact itp_of (T₁.trans I T₂) hq h1
  · intro d C env F Z l H s A E Q ok nr rm R I hk
    rw [s0, Bool.and_eq_true] at ok
    rw [ak] at hk
    rw [rf, arm_eval_Call_Name']
    refine wpAny_bind (load_built hS I R ok.1 hS.trange ?_)
    rw [args_eq]
    refine PyProof.Rows.callWith_type (args_any _ _ _) (evalArgs_es _ es (hs.use ok.2 rm R I hk fun vs s₁ ms H₁ hk T₁ r R₁ => ?_))
    refine wpAny_mono (rng_both (E := E) rm.hd T₁.inv r hk) (fun x s₂ h => ?_) fun _ _ x => x
    obtain ⟨xs, hq, T₂, h1, h2⟩ := h
    exact ⟨xs, _, hq, T₁.trans I T₂, h2⟩
theorem i_rev (hS : StatOk G) {e : ME} (he : EvS G e) : EvI G (.rev e pn p) := by
  intro d C env F Z l H s A E Q ok rm R I hk
  rw [vy, Bool.and_eq_true] at ok
  rw [bx] at hk
  rw [tq, arm_eval_Call_Name']
  refine wpAny_bind (load_built hS I R ok.1 hS.trev ?_)
  have e0 : backTo p (starEach [den C e] env) = [(false, eval (den C e) env)] := args_eq C env p (.cons e .nil)
  rw [e0]
  refine PyProof.Rows.callWith_type rfl (Calls.evalArgs_plain (Calls.spliced_cons (he.use ok.2 rm R I hk fun v s₁ m H₁ hk T₁ r R₁ => Calls.spliced_nil ?_)))
  obtain ⟨xs, rfl, hk'⟩ := lW_of hk
  obtain ⟨a, n, vs, rfl, hx, g, q⟩ := vr_list r
  exact wpAny_mono (itb_rev rm.hd T₁.inv g hx q) (fun x s₂ h => wpAny_mono h (fun v s₃ h => ⟨_, _, _, hk'.2, T₁, h⟩) fun _ _ x => x) fun _ _ x => x
theorem s_lst (hS : StatOk G) {it : MIt} {m : Bool} (hi : EvL G it) : EvS G (.lst it m pn p) := fun {d C env F Z l H s A E Q} ok rm R I hk => by
  rw [vt, Bool.and_eq_true, Bool.and_eq_true] at ok
  rw [bs] at hk
  rw [th, arm_eval_Call_Name']
  refine wpAny_bind (load_built hS I R ok.1.1 hS.tlist ?_)
  have e0 : backTo p (starEach [denI C it] env) = [(false, eval (denI C it) env)] := by
    cases it with
    | it e => exact args_eq C env p (.cons e .nil)
    | rng _ _ _ => rfl
    | rev _ _ _ => rfl
  rw [e0]
  refine PyProof.Rows.callWith_type rfl (Calls.evalArgs_plain (Calls.spliced_cons (wpAny_mono (hi ok.1.2 ok.2 rm R I hk) (fun x s₁ h => Calls.spliced_nil ?_) fun _ _ x => x)))
  obtain ⟨xs, H₁, ⟨hl, hk⟩, T₁, L⟩ := h
  exact L.lst A E _ rm.hd hl fun h' tk n vs gr e r => PV.after I T₁ (newL_pv T₁.inv gr rfl rfl (fresh_size _) e r hk)
end
end Mine
namespace Mine
variable {G : Stat}
theorem inj_of_nodup {α β : Type} {f : α → β} : ∀ {l : List α} {a b : α}, (l.map f).Nodup → a ∈ l → b ∈ l → f a = f b → a = b
  | x :: r, a, b, h, ha, hb, e => by
    rw [List.map_cons, List.nodup_cons] at h
    rcases List.mem_cons.mp ha with ha' | ha' <;> rcases List.mem_cons.mp hb with hb' | hb'
    · rw [ha', hb']
    · rw [ha'] at e; exact absurd (e ▸ List.mem_map_of_mem hb') h.1
    · rw [hb'] at e; exact absurd (e ▸ List.mem_map_of_mem ha') h.1
    · exact inj_of_nodup h.2 ha' hb' e
noncomputable def closL (cells : List (Str × Addr)) : List (Str × NameKind) → List (Str × Addr) → List (Str × Addr)
  | [], cs => cs
  | (n, k) :: r, cs => if k == .free then closL cells r ((n, (cells.lookup n).getD 0) :: cs) else closL cells r cs
theorem closL_lookup (cells : List (Str × Addr)) (x : Str) : ∀ (names : List (Str × NameKind)) (cs : List (Str × Addr)), (∀ n, (n, NameKind.free) ∈ names → ∃ a, cells.lookup n = some a) →
    ((x, NameKind.free) ∈ names ∨ cs.lookup x = cells.lookup x) → (closL cells names cs).lookup x = cells.lookup x
  | [], cs, _, h => by
    rcases h with h | h
    · cases h
    · exact h
  | (n, k) :: r, cs, hs, h => by
    rw [closL]
    by_cases hk : k = .free
    · subst hk
      rw [if_pos (by rfl)]
      obtain ⟨a, ea⟩ := hs n (.head _)
      refine closL_lookup cells x r _ (fun m hm => hs m (.tail _ hm)) ?_
      by_cases hx : x = n
      · subst hx
        refine .inr ?_
        rw [List.lookup_cons, beq_self_eq_true, ea]; rfl
      · have hx' : (x == n) = false := by simpa using hx
        rcases h with h | h
        · rcases List.mem_cons.mp h with e | h
          · cases e; exact absurd rfl hx
          · exact .inl h
        · refine .inr ?_
          rw [List.lookup_cons, hx']; exact h
    · have hk' : (k == NameKind.free) = false := by cases k <;> first | rfl | exact absurd rfl hk
      rw [hk', if_neg (by decide)]
      refine closL_lookup cells x r cs (fun m hm => hs m (.tail _ hm)) ?_
      rcases h with h | h
      · rcases List.mem_cons.mp h with e | h
        · cases e; exact absurd rfl hk
        · exact .inl h
      · exact .inr h
theorem closureFor_eq (scope : Scope) (env : Env) (hs : ∀ n, (n, NameKind.free) ∈ scope.names → ∃ a, env.cells.lookup n = some a) : closureFor scope env = pure (closL env.cells scope.names []) := by
  unfold closureFor
  have go : ∀ (names : List (Str × NameKind)) (cs : List (Str × Addr)), (∀ n, (n, NameKind.free) ∈ names → ∃ a, env.cells.lookup n = some a) →
      (forIn names cs fun x r => if (x.2 == NameKind.free) = true then do let a ← cellOf env x.1; pure (ForInStep.yield ((x.1, a) :: r)) else pure (ForInStep.yield r) : Sem (List (Str × Addr))) = pure (closL env.cells names cs) := by
    intro names
    induction names with
    | nil => intro cs _; rfl
    | cons p r ih =>
      intro cs hs
      obtain ⟨n, k⟩ := p
      rw [List.forIn_cons, closL]
      by_cases hk : k = .free
      · subst hk
        obtain ⟨a, ea⟩ := hs n (.head _)
        have e : cellOf env n = pure a := by unfold cellOf; rw [ea]
        simp only [beq_self_eq_true, if_true, e, pure_bind]
        rw [ih _ fun m hm => hs m (.tail _ hm), ea]; rfl
      · have hk' : (k == NameKind.free) = false := by cases k <;> first | rfl | exact absurd rfl hk
        simp only [hk', Bool.false_eq_true, if_false, pure_bind]
        exact ih _ fun m hm => hs m (.tail _ hm)
  have := go scope.names [] hs
  simp only [bind_pure]; exact this
section
variable {d : Nat} {C : Ctx} {env : Env} {F : FP} {Z : List Addr} {l : Loc} {H H₁ : MH} {s s₁ : Shared} {A : Around} {E : Value → Shared → Prop} {p pn : Pos} {h h' : Heap}
theorem slot_name {i : Nat} {x : Str} {k : SK} (hx : C.slots[i]? = some (x, k)) : C.nm i = x := by unfold Ctx.nm; rw [List.getD_eq_getElem?_getD, hx]; rfl
theorem cc_cell (R : FR G C env F Z l H h) {i : Nat} {x : Str} (hx : C.slots[i]? = some (x, .cc)) : ∃ c, env.cells.lookup (C.nm i) = some c ∧ c ∈ F.cc ∧ c ∉ keys H ++ Z ∧
    ∃ orv, h.IsCell c orv ∧ (∀ v, l[i]? = some (some v) → ∃ rv, orv = some rv ∧ VR G (keys H ++ Z) h v rv) ∧ (l[i]? = some none → orv = none) := by
  obtain ⟨_, c, ec, _, h2, orv, ic, hv, hn⟩ := R.cell i x _ hx (.inr rfl)
  have hc := h2 rfl
  refine ⟨c, slot_name hx ▸ ec, hc, fun m => ?_, orv, ic, hv, hn rfl⟩
  rcases List.mem_append.mp m with m | m
  · exact R.own c (List.mem_append_right _ hc) (List.mem_append_left _ m)
  · exact R.zc c hc m
theorem vf_of (R : FR G C env F Z l H h) {clos : List (Str × Addr)} : ∀ (cap : List Nat) (vs : List MV), capV l cap = some vs → (∀ i ∈ cap, ∃ x, C.slots[i]? = some (x, .cc)) → (∀ i ∈ cap, clos.lookup (C.nm i) = env.cells.lookup (C.nm i)) →
    VF G (keys H ++ Z) h clos vs (cap.map C.nm)
  | [], vs, e, _, _ => by rw [capV] at e; cases e; unfold VF; rfl
  | i :: r, vs, e, hk, hc => by
    rw [capV] at e
    split at e
    · rename_i v ev
      obtain ⟨ws, e', rfl⟩ := Option.map_eq_some_iff.mp e
      obtain ⟨x, hx⟩ := hk i (.head _)
      obtain ⟨c, ec, _, hX, orv, ic, hv, _⟩ := cc_cell R hx
      obtain ⟨rv, rfl, rr⟩ := hv v ev
      unfold VF
      exact ⟨C.nm i, r.map C.nm, rfl, ⟨c, rv, by rw [hc i (.head _)]; exact ec, hX, ic, rr⟩, vf_of R r ws e' (fun j m => hk j (.tail _ m)) fun j m => hc j (.tail _ m)⟩
    · cases e
theorem codeAmong_snoc' {pos pos' : Pos} {c : Value} : ∀ (l : List Value), TriplesOk l → TriplesOk (l ++ [rawInt pos.line, rawInt pos.col, c]) ∧
    ∀ v, codeAmong pos' (l ++ [rawInt pos.line, rawInt pos.col, c]) = some v → codeAmong pos' l = some v ∨ v = c
  | [], _ => by
    refine ⟨trivial, fun v e => ?_⟩
    show _ ∨ _
    rw [List.nil_append] at e
    unfold rawInt codeAmong at e
    split at e
    · cases e; exact .inr rfl
    · cases e
  | .int a ta :: .int b tb :: x :: r, h => by
    obtain ⟨h1, h2⟩ := codeAmong_snoc' (pos := pos) (pos' := pos') (c := c) r h
    refine ⟨h1, fun v e => ?_⟩
    rw [List.cons_append, List.cons_append, List.cons_append, codeAmong] at e
    rw [codeAmong]
    split at e
    · rename_i q; rw [if_pos q]; exact .inl e
    · rename_i q; rw [if_neg q]; exact h2 v e
theorem Inv.tabUp (hS : StatOk G) (I : Inv G Z H h) {c P c' : Addr} {q : Str} {ps : Array Value} {pos : Pos} (ht : (c, P, q) ∈ G.tabs) (hP : h.get? P = some (tabObj ps)) (hx : Heap.ExtBut P h h')
    (hP' : h'.get? P = some (tabObj (ps ++ #[rawInt pos.line, rawInt pos.col, .ref c']))) (hc : h'.CodeRec (.ref c') q) (hn : c' ∉ keys H ++ Z) : Inv G Z H h' := by
  have hTP : P ∈ G.TP := List.mem_map_of_mem (f := fun x : Addr × Addr × Str => x.2.1) ht
  have hPZ := I.tp P hTP
  have hX : P ∈ keys H ++ Z := List.mem_append_right _ hPZ
  have kp : Keep (keys H ++ Z) h h' := fun a o ha _ e => hx a o (fun q => ha (q ▸ hX)) e
  refine ⟨fun a o e => hx a o (fun q => I.base a o e (q ▸ hX)) (I.keep a o e), I.base, fun t ht' => ?_, I.tp, I.tpk, I.nd, fun a xs m => ?_, fun a m => ?_⟩
  · obtain ⟨ps', g, t1, t2⟩ := I.tabs t ht'
    by_cases e : t.2.1 = P
    · rw [e, hP] at g
      have et : t = (c, P, q) := by
        have hnd := hS.tnd
        exact inj_of_nodup (f := fun x : Addr × Addr × Str => x.2.1) hnd ht' ht e
      cases g
      obtain ⟨_, _⟩ := codeAmong_snoc' (pos := pos) (pos' := pos) (c := .ref c') _ t1
      refine ⟨_, by rw [e]; exact hP', by rw [Array.toList_append]; exact (codeAmong_snoc' (pos := pos) (pos' := pos) _ t1).1, fun pos' cv ecv => ?_⟩
      rw [Array.toList_append] at ecv
      rcases (codeAmong_snoc' (pos := pos) (pos' := pos') _ t1).2 cv ecv with q' | q'
      · obtain ⟨c₂, e2, h2, r2⟩ := t2 pos' cv q'
        exact ⟨c₂, e2, h2, codeRec_keep kp h2 r2⟩
      · exact ⟨c', q', hn, by rw [et]; exact hc⟩
    · refine ⟨ps', hx _ _ e g, t1, fun pos' cv ecv => ?_⟩
      obtain ⟨c₂, e2, h2, r2⟩ := t2 pos' cv ecv
      exact ⟨c₂, e2, h2, codeRec_keep kp h2 r2⟩
  · obtain ⟨n, vs, g, r⟩ := I.cells a xs m
    have hak : a ∈ keys H := List.mem_map_of_mem (f := fun x : Addr × List MV => x.1) m
    exact ⟨n, vs, hx _ _ (fun q => I.tpk a hak (q ▸ hPZ)) g, VRs.keep kp (Sub.refl _ _) _ _ r⟩
  · obtain ⟨o, e⟩ := I.lt a m
    by_cases q : a = P
    · subst q; exact ⟨_, hP'⟩
    · exact ⟨o, hx _ _ q e⟩
noncomputable def MkQ (G : Stat) (Z : List Addr) (H : MH) (s : Shared) (k : Nat) (clos : List (Str × Addr)) (v : Value) (s' : Shared) : Prop :=
  ∃ f o fd c, v = .ref f ∧ s.heap.get? f = none ∧ Tr G Z H s H s' ∧ s'.heap.get? f = some o ∧ o.data = .func fd ∧ FdOk (G.clo k) fd ∧ fd.closure = clos ∧ fd.code = .ref c ∧ c ∉ keys H ++ Z ∧
    s'.heap.CodeRec (.ref c) (G.clo k).qual
theorem mk_sound (hS : StatOk G) (R : FR G C env F Z l H s.heap) (I : Inv G Z H s.heap) {k : Nat} {self : Option Str} {name : Str} {ar : Arguments} {b : FuncBody} {sc : Scope} {cap : List Nat} {clos : List (Str × Addr)} {fl : Nat}
    (ok : CloOk G C k self name ar b sc cap) (hcl : closureFor sc env = pure clos) : wpAny (model G.prog G.w) A (makeFunction name (C.qual ++ name) ar b sc env [] [] [] p fl) (MkQ G Z H s k clos) E s := by
  obtain ⟨c, P, ec, ht⟩ := ok.tab
  obtain ⟨ps, hP, t1, t2⟩ := I.tabs _ ht
  have hTP : P ∈ G.TP := List.mem_map_of_mem (f := fun x : Addr × Addr × Str => x.2.1) ht
  have hPZ := I.tp P hTP
  have hPB : G.B.get? P = none := by
    cases e : G.B.get? P with
    | none => rfl
    | some o => exact absurd (List.mem_append_right _ hPZ) (I.base P o e)
  have hgP : mainGlobals ≠ P := fun q => by
    obtain ⟨o, es, ep, e, _⟩ := hS.ns
    rw [q, hPB] at e; cases e
  have hb := hS.bat P hPB s.heap I.keep
  have hC : CodeHd s.heap c P := (hS.hd _ ht).keeps I.keep
  have hqual : (G.clo k).qual = C.qual ++ name := by rw [ok.is]
  have old : ∀ h₁ : Heap, s.heap.objs.size ≤ h₁.objs.size → s.heap.get? h₁.objs.size = none := fun h₁ hz => Heap.get?_none_of_le hz
  cases hf : codeAmong p ps.toList with
  | some cv =>
    obtain ⟨c', e', hc', rc⟩ := t2 p cv hf
    cases b with
    | expr e =>
      refine kla_makeFunctionHit hcl R.globals (I.mgl hS) (R.code c ec) hC hP t1 hf hb fun ctv h' tk hk hz => ?_
      refine ⟨h'.objs.size, _, _, c', rfl, old h' hz, Tr.grow I (fun a o e => Heap.get?_push_of_some _ (hk a o e)) rfl rfl, Heap.get?_push_size _ rfl, rfl, ?_, rfl, e', hc', by rw [hqual]; exact (rc.keeps hk).keeps fun b o e => Heap.get?_push_of_some _ e⟩
      rw [ok.is]; exact ⟨rfl, rfl, rfl, rfl, rfl, rfl, rfl, rfl, rfl⟩
    | stmts e =>
      refine makeFunction_hit hcl R.globals (I.mgl hS) (R.code c ec) hC hP t1 hf hb fun ctv doc h' tk hk hz => ?_
      refine ⟨h'.objs.size, _, _, c', rfl, old h' hz, Tr.grow I (fun a o e => Heap.get?_push_of_some _ (hk a o e)) rfl rfl, Heap.get?_push_size _ rfl, rfl, ?_, rfl, e', hc', by rw [hqual]; exact (rc.keeps hk).keeps fun b o e => Heap.get?_push_of_some _ e⟩
      rw [ok.is]; exact ⟨rfl, rfl, rfl, rfl, rfl, rfl, rfl, rfl, rfl⟩
  | none =>
    have tr : ∀ (c' : Addr) (h' : Heap) (o : Obj) (tk : Tok), Heap.ExtBut P s.heap h' → s.heap.objs.size ≤ c' → c' < h'.objs.size → h'.CodeRec (.ref c') (C.qual ++ name) → h'.get? P = some (tabObj (ps ++ #[rawInt p.line, rawInt p.col, .ref c'])) →
        c' ∉ keys H ++ Z ∧ Tr G Z H s H { s with heap := h'.push o, toks := tk } := fun c' h' o tk hx hge hlt rc hP' => by
      have hn : c' ∉ keys H ++ Z := I.off (Heap.get?_none_of_le hge)
      refine ⟨hn, (I.tabUp hS ht hP hx hP' rc hn).grow (Grew.push _ _), fun a o' ha e => Heap.get?_push_of_some _ (hx a o' (fun q => ha (List.mem_append_right _ (q ▸ hTP))) e), fun _ m => .inl m, rfl, rfl⟩
    have hsz : ∀ (c' : Addr) (h' : Heap), s.heap.objs.size ≤ c' → c' < h'.objs.size → s.heap.objs.size ≤ h'.objs.size := fun c' h' a b => Nat.le_trans a (Nat.le_of_lt b)
    cases b with
    | expr e =>
      refine kla_makeFunction hcl R.globals (I.mgl hS) (R.code c ec) hC hP t1 hf hgP hb fun c' ctv h' tk hx hge hlt rc hP' => ?_
      obtain ⟨hn, T⟩ := tr c' h' (kla_obj name (C.qual ++ name) ar e sc clos ((G.mg "__name__").getD .none) c' ctv) tk hx hge hlt rc hP'
      refine ⟨h'.objs.size, _, _, c', rfl, old h' (hsz c' h' hge hlt), T, Heap.get?_push_size _ rfl, rfl, ?_, rfl, rfl, hn, by rw [hqual]; exact rc.keeps fun b o e => Heap.get?_push_of_some _ e⟩
      rw [ok.is]; exact ⟨rfl, rfl, rfl, rfl, rfl, rfl, rfl, rfl, rfl⟩
    | stmts e =>
      refine makeFunction_K hcl R.globals (I.mgl hS) (R.code c ec) hC hP t1 hf hgP hb fun c' ctv doc h' tk hx hge hlt rc hP' => ?_
      obtain ⟨hn, T⟩ := tr c' h' (fnMade name (C.qual ++ name) ar e sc clos doc ((G.mg "__name__").getD .none) c' ctv) tk hx hge hlt rc hP'
      refine ⟨h'.objs.size, _, _, c', rfl, old h' (hsz c' h' hge hlt), T, Heap.get?_push_size _ rfl, rfl, ?_, rfl, rfl, hn, by rw [hqual]; exact rc.keeps fun b o e => Heap.get?_push_of_some _ e⟩
      rw [ok.is]; exact ⟨rfl, rfl, rfl, rfl, rfl, rfl, rfl, rfl, rfl⟩
end
end Mine
namespace Mine
variable {G : Stat}
noncomputable def Tch (Z W : List Addr) (h h' : Heap) : Prop := ∀ a o, h.get? a = some o → h'.get? a = some o ∨ (a ∈ W ∧ (a ∈ Z ∨ o.data = .cell none) ∧ ∃ o', h'.get? a = some o')
noncomputable def WOk (G : Stat) (H : MH) (W : List Addr) : Prop := ∀ a ∈ W, a ∉ G.TP ∧ a ∉ keys H ∧ G.B.get? a = none
section
variable {d : Nat} {C : Ctx} {env : Env} {F : FP} {Z W : List Addr} {l : Loc} {H H' H₁ : MH} {s s' s₁ : Shared} {A : Around} {E : Value → Shared → Prop} {p pn : Pos} {h h' : Heap}
theorem Tch.keep (t : Tch Z W h h') : Keep (keys H ++ Z) h h' := fun a o ha hc e => by
  rcases t a o e with q | ⟨_, q | q, _⟩
  · exact q
  · exact absurd (List.mem_append_right _ q) ha
  · exact absurd q hc
theorem Tch.mono {W' : List Addr} (t : Tch Z W h h') (hs : ∀ a ∈ W, a ∈ W') : Tch Z W' h h' := fun a o e => (t a o e).imp id fun ⟨m, r⟩ => ⟨hs a m, r⟩
theorem Inv.tch (I : Inv G Z H h) (t : Tch Z W h h') (hw : WOk G H W) : Inv G Z H h' := I.touch fun a o e => (t a o e).imp id fun ⟨m, c, r⟩ => ⟨c, (hw a m).1, (hw a m).2.1, (hw a m).2.2, r⟩
theorem TrW.tch (I : Inv G Z H s.heap) (t : Tch Z W s.heap h') (hw : WOk G H W) (k : Tok) : TrW G Z W H s H { s with heap := h', toks := k } where
  inv := I.tch t hw
  keep := fun a o m e => (t a o e).elim id fun ⟨q, _⟩ => absurd (List.mem_append_right _ (List.mem_append_right _ q)) m
  sub := fun _ m => .inl m
  wl := fun a m ⟨o, e⟩ => (t a o e).elim (fun q => ⟨o, q⟩) fun ⟨_, _, r⟩ => r
  gens := rfl
  os := rfl
  kp := t.keep
theorem Tch.one {a : Addr} (hs : Heap.SameBut a h h') (hz : a ∈ Z) (he : ∃ o, h'.get? a = some o) : Tch Z [a] h h' := fun b o e => by
  by_cases q : b = a
  · subst q; exact .inr ⟨.head _, .inl hz, he⟩
  · exact .inl (hs.extBut b o q e)
theorem FR.tch (R : FR G C env F Z l H h) (t : Tch Z W h h') (hw : ∀ a ∈ W, a ∉ F.L :: F.nc ++ F.cc) (hf : ∀ a ∈ W, a ∉ F.fc) : FR G C env F Z l H h' :=
  R.map (VR.keep t.keep (Sub.refl _ _) _ _) (fun a m o e => (t a o e).elim id fun ⟨q, _⟩ => m.elim (fun m => absurd m (hw a q)) fun m => absurd m (hf a q)) R.offA R.z R.zc
theorem set_at {i j : Nat} {m : MV} {l : Loc} (hi : i < l.length) : (l.set i (some m))[j]? = if j = i then some (some m) else l[j]? := by
  rw [List.getElem?_set]
  by_cases q : i = j
  · subst q; rw [if_pos rfl, if_pos rfl, if_pos hi]
  · rw [if_neg q, if_neg (fun e => q e.symm)]
theorem slot_inj (nd : (C.slots.map (·.1)).Nodup) {i j : Nat} {x : Str} {k k' : SK} (hi : C.slots[i]? = some (x, k)) (hj : C.slots[j]? = some (x, k')) : i = j := by
  have e1 : (C.slots.map (·.1))[i]? = some x := by rw [List.getElem?_map, hi]; rfl
  have e2 : (C.slots.map (·.1))[j]? = some x := by rw [List.getElem?_map, hj]; rfl
  obtain ⟨h1, e1⟩ := List.getElem?_eq_some_iff.mp e1
  obtain ⟨h2, e2⟩ := List.getElem?_eq_some_iff.mp e2
  have hp := List.pairwise_iff_getElem.mp nd
  rcases Nat.lt_trichotomy i j with q | q | q
  · exact absurd (e1.trans e2.symm) (hp i j h1 h2 q)
  · exact q
  · exact absurd (e2.trans e1.symm) (hp j i h2 h1 q)
abbrev FP.all (F : FP) : List Addr := F.L :: F.nc ++ F.cc
theorem FR.wok (R : FR G C env F Z l H h) : WOk G H F.all := fun a m => ⟨fun q => R.own a m (List.mem_append_right _ q), fun q => R.own a m (List.mem_append_left _ q), R.old a m⟩
noncomputable def setOk (C : Ctx) (l : Loc) (i : Nat) : Prop := ∃ x k, C.slots[i]? = some (x, k) ∧ (k = .loc ∨ k = .nc ∨ (k = .cc ∧ l[i]? = some none))
theorem store_sound (R : FR G C env F Z l H s.heap) (I : Inv G Z H s.heap) {i : Nat} (hi : setOk C l i) {m : MV} {v : Value} (r : VR G (keys H ++ Z) s.heap m v) {Q : Unit → Shared → Prop}
    (hQ : ∀ s', Tch Z F.all s.heap s'.heap → TrW G Z F.all H s H s' → FR G C env F Z (l.set i (some m)) H s'.heap → (∀ t, s' = { s with heap := s'.heap, toks := t } ∨ True) → Q () s') :
    wpAny (model G.prog G.w) A (storeName env (C.nm i) v) Q E s := by
  obtain ⟨x, k, hx, hk⟩ := hi
  rw [slot_name hx]
  have hil : i < l.length := by rw [R.len]; exact (List.getElem?_eq_some_iff.mp hx).1
  have hm : x ∈ C.slots.map (·.1) := List.mem_map_of_mem (f := fun p : Str × SK => p.1) (List.mem_of_getElem? hx)
  have hLz : F.L ∈ Z := R.z _ (.head _)
  rcases hk with hk | hk
  · subst hk
    obtain ⟨m₀, hns, hv⟩ := R.ns
    refine wpAny_storeName_local (hv i x hx).1 (R.locals ▸ hns) (fun h' hn hs => ?_) (by rw [R.kind]; rfl)
    rw [R.locals] at hn hs
    have hL' : ∃ o, h'.get? F.L = some o := let ⟨o, _, _, e, _⟩ := hn; ⟨o, e⟩
    have t : Tch Z F.all s.heap h' := (Tch.one hs hLz hL').mono fun a q => by rw [List.mem_singleton.mp q]; exact .head _
    have up : ∀ {m : MV} {v : Value}, VR G (keys H ++ Z) s.heap m v → VR G (keys H ++ Z) h' m v := fun r => VR.keep t.keep (Sub.refl _ _) _ _ r
    refine hQ _ t (TrW.tch I t R.wok _) ?_ (fun _ => .inr trivial)
    have kc : ∀ c v, c ≠ F.L → s.heap.IsCell c v → h'.IsCell c v := fun c v hc ⟨o, g, d⟩ => ⟨o, hs.extBut _ _ hc g, d⟩
    refine ⟨R.kind, R.locals, R.globals, R.builtins, R.code, R.qual, by rw [List.length_set]; exact R.len, R.nd, ⟨_, hn, fun j y e => ⟨(hv j y e).1, fun v' ev => ?_⟩⟩, fun j y kd e hk => ?_, fun j y e => ?_, R.glob, R.dbg, R.cls, R.inj, R.own, R.apart, R.z, R.zc, R.old, fun a m => ?_, R.fro, R.frx, R.fok, fun a m => let ⟨o, e⟩ := R.frl a m; (t a o e).elim (fun q => ⟨o, q⟩) fun ⟨_, _, r⟩ => r⟩
    · rw [set_at hil] at ev
      by_cases q : j = i
      · subst q
        rw [if_pos rfl] at ev; cases ev
        rw [hx] at e; cases e
        exact ⟨v, if_pos rfl, up r⟩
      · rw [if_neg q] at ev
        have hy : y ≠ x := fun q' => q (slot_inj R.nd e (q' ▸ hx))
        obtain ⟨rv, e1, e2⟩ := (hv j y e).2 v' ev
        exact ⟨rv, by rw [if_neg hy]; exact e1, up e2⟩
    · obtain ⟨kk, c, ec, h1, h2, orv, ic, hv', hn'⟩ := R.cell j y kd e hk
      have hc : c ≠ F.L := fun q => R.apart.1 (by
        rcases hk with rfl | rfl
        · exact List.mem_append_left _ (q ▸ h1 rfl)
        · exact List.mem_append_right _ (q ▸ h2 rfl))
      have hj : j ≠ i := fun q => by
        subst q; rw [hx] at e; cases e
        rcases hk with hk | hk <;> cases hk
      refine ⟨kk, c, ec, h1, h2, orv, kc _ _ hc ic, fun v' ev => ?_, fun q ev => ?_⟩
      · rw [set_at hil, if_neg hj] at ev
        obtain ⟨rv, e1, e2⟩ := hv' v' ev
        exact ⟨rv, e1, up e2⟩
      · rw [set_at hil, if_neg hj] at ev; exact hn' q ev
    · obtain ⟨kk, hv'⟩ := R.free j y e
      have hj : j ≠ i := fun q => by subst q; rw [hx] at e; cases e
      refine ⟨kk, fun v' ev => ?_⟩
      rw [set_at hil, if_neg hj] at ev
      obtain ⟨c, rv, ec, hc, h1, h2, h3, ic, rr⟩ := hv' v' ev
      exact ⟨c, rv, ec, hc, h1, h2, h3, kc _ _ h1 ic, up rr⟩
    · obtain ⟨o, e⟩ := R.lt a m
      by_cases q : a = F.L
      · subst q; exact hL'
      · exact ⟨o, hs.extBut _ _ q e⟩
  · have hk' : k = .nc ∨ k = .cc := hk.imp id (·.1)
    obtain ⟨kk, c, ec, h1, h2, orv, ic, hvi, hni⟩ := R.cell i x k hx hk'
    have hcF : c ∈ F.nc ++ F.cc := by
      rcases hk' with rfl | rfl
      · exact List.mem_append_left _ (h1 rfl)
      · exact List.mem_append_right _ (h2 rfl)
    have hcA : c ∈ F.all := by
      rcases List.mem_append.mp hcF with q | q
      · exact List.mem_append_left _ (.tail _ q)
      · exact List.mem_append_right _ q
    have hcL : c ≠ F.L := fun q => R.apart.1 (q ▸ hcF)
    refine wpAny_storeName_cell R.kind kk ec ic fun h' ic' hs => ?_
    have hc' : ∃ o, h'.get? c = some o := let ⟨o, e, _⟩ := ic'; ⟨o, e⟩
    have t : Tch Z F.all s.heap h' := fun b o e => by
      by_cases q : b = c
      · subst q
        refine .inr ⟨hcA, ?_, hc'⟩
        rcases hk with rfl | ⟨rfl, hln⟩
        · exact .inl (R.z _ (.tail _ (h1 rfl)))
        · obtain ⟨o', e', d'⟩ := ic
          rw [e] at e'; cases e'
          exact .inr (by rw [d', hni rfl hln])
      · exact .inl (hs.extBut _ _ q e)
    have up : ∀ {m : MV} {v : Value}, VR G (keys H ++ Z) s.heap m v → VR G (keys H ++ Z) h' m v := fun r => VR.keep t.keep (Sub.refl _ _) _ _ r
    have T := TrW.tch I t R.wok s.toks
    refine hQ _ t T ?_ (fun _ => .inr trivial)
    have kc : ∀ c' v, c' ≠ c → s.heap.IsCell c' v → h'.IsCell c' v := fun c' v hc ⟨o, g, d⟩ => ⟨o, hs.extBut _ _ hc g, d⟩
    refine ⟨R.kind, R.locals, R.globals, R.builtins, R.code, R.qual, by rw [List.length_set]; exact R.len, R.nd, ?_, fun j y kd e hk => ?_, fun j y e => ?_, R.glob, R.dbg, R.cls, R.inj, R.own, R.apart, R.z, R.zc, R.old, fun a m => ?_, R.fro, R.frx, R.fok, fun a m => let ⟨o, e⟩ := R.frl a m; (t a o e).elim (fun q => ⟨o, q⟩) fun ⟨_, _, r⟩ => r⟩
    · obtain ⟨m₀, ⟨o, es, ep, g, rr⟩, hv⟩ := R.ns
      refine ⟨m₀, ⟨o, es, ep, hs.extBut _ _ hcL.symm g, rr⟩, fun j y e => ⟨(hv j y e).1, fun v' ev => ?_⟩⟩
      have hj : j ≠ i := fun q => by
        subst q; rw [hx] at e; cases e
        rcases hk' with hk | hk <;> cases hk
      rw [set_at hil, if_neg hj] at ev
      obtain ⟨rv, e1, e2⟩ := (hv j y e).2 v' ev
      exact ⟨rv, e1, up e2⟩
    · obtain ⟨kk', c', ec', h1', h2', orv', ic₂, hv', hn'⟩ := R.cell j y kd e hk
      by_cases q : j = i
      · subst q
        rw [hx] at e; cases e
        rw [ec] at ec'; cases ec'
        refine ⟨kk', c, ec, h1', h2', some v, ic', fun v' ev => ?_, fun q ev => ?_⟩
        · rw [set_at hil, if_pos rfl] at ev; cases ev
          exact ⟨v, rfl, up r⟩
        · rw [set_at hil, if_pos rfl] at ev; cases ev
      · have hy : y ∈ C.slots.map (·.1) := List.mem_map_of_mem (f := fun p : Str × SK => p.1) (List.mem_of_getElem? e)
        have hc : c' ≠ c := fun q' => q (slot_inj R.nd e ((R.inj j i y x _ _ c e hx hk hk' (q' ▸ ec') ec) ▸ hx))
        refine ⟨kk', c', ec', h1', h2', orv', kc _ _ hc ic₂, fun v' ev => ?_, fun q' ev => ?_⟩
        · rw [set_at hil, if_neg q] at ev
          obtain ⟨rv, e1, e2⟩ := hv' v' ev
          exact ⟨rv, e1, up e2⟩
        · rw [set_at hil, if_neg q] at ev; exact hn' q' ev
    · obtain ⟨kk', hv'⟩ := R.free j y e
      have hj : j ≠ i := fun q => by
        subst q; rw [hx] at e; cases e
        rcases hk' with hk | hk <;> cases hk
      refine ⟨kk', fun v' ev => ?_⟩
      rw [set_at hil, if_neg hj] at ev
      obtain ⟨c', rv, ec', hc', h1', h2', h3', ic₂, rr⟩ := hv' v' ev
      have hc : c' ≠ c := fun q => by
        subst q
        rcases List.mem_append.mp hcF with q | q
        · exact h2' q
        · exact h3' q
      exact ⟨c', rv, ec', hc', h1', h2', h3', kc _ _ hc ic₂, up rr⟩
    · obtain ⟨o, e⟩ := R.lt a m
      by_cases q : a = c
      · subst q; exact hc'
      · exact ⟨o, hs.extBut _ _ q e⟩
structure Wk (G : Stat) (A : Around) (Z : List Addr) (H : MH) (xs : List MV) (I : Addr) (fp : List Addr) (P : Nat → Value → Prop) (St : Nat → Heap → Prop) (j : Nat) (h : Heap) : Prop where
  walk : Walks G.prog G.w A I fp [I] xs.length P St
  st : St j h
  fp : ∀ b ∈ fp, b = I ∨ (b ∉ keys H ++ Z ∧ ∃ o, h.get? b = some o ∧ notCell o)
  item : ∀ i v, P i v → ∃ m, xs[i]? = some m ∧ VR G (keys H ++ Z) h m v
  iz : I ∈ Z
  it : I ∉ G.TP
  ib : G.B.get? I = none
  ex : ∀ i h, St i h → ∃ o, h.get? I = some o
variable {xs : List MV} {I : Addr} {fp : List Addr} {P : Nat → Value → Prop} {St : Nat → Heap → Prop} {j : Nat}
theorem Wk.addZ {N : List Addr} (K : Wk G A Z H xs I fp P St j h) (k : Grew h h') (hN : ∀ a ∈ N, h.get? a = none) (J : Inv G Z H h) : Wk G A (N ++ Z) H xs I fp P St j h' := by
  have sb : Sub h (keys H ++ (N ++ Z)) (keys H ++ Z) := fun a m => by
    rcases List.mem_append.mp m with m | m
    · exact .inl (List.mem_append_left _ m)
    · rcases List.mem_append.mp m with m | m
      · exact .inr (hN a m)
      · exact .inl (List.mem_append_right _ m)
  refine ⟨K.walk, K.walk.frame _ _ _ K.st fun b _ o e => k b o e, fun b m => ?_, fun i v e => ?_, List.mem_append_right _ K.iz, K.it, K.ib, K.ex⟩
  · rcases K.fp b m with q | ⟨q, o, e, c⟩
    · exact .inl q
    · exact .inr ⟨sb.not q e, o, k _ _ e, c⟩
  · obtain ⟨m, e1, e2⟩ := K.item i v e
    exact ⟨m, e1, VR.keep (fun a o _ _ e => k a o e) sb _ _ e2⟩
theorem Wk.tr (K : Wk G A Z H xs I fp P St j s.heap) (J : Inv G Z H s.heap) (T : Tr G Z H s H' s') : Wk G A Z H' xs I fp P St j s'.heap := by
  have hI : I ∉ keys H ++ G.TP := fun m => by
    rcases List.mem_append.mp m with m | m
    · exact J.tpk I m K.iz
    · exact K.it m
  have hb : ∀ b, b ∉ keys H ++ Z → b ∉ keys H ++ G.TP := fun b hb m => hb (J.y_sub b m)
  refine ⟨K.walk, K.walk.frame _ _ _ K.st fun b m o e => ?_, fun b m => ?_, fun i v e => ?_, K.iz, K.it, K.ib, K.ex⟩
  · rcases K.fp b m with q | ⟨q, _⟩
    · subst q; exact T.keep _ _ hI e
    · exact T.keep _ _ (hb b q) e
  · rcases K.fp b m with q | ⟨q, o, e, c⟩
    · exact .inl q
    · exact .inr ⟨T.xsub.not q e, o, T.keep _ _ (hb b q) e, c⟩
  · obtain ⟨m, e1, e2⟩ := K.item i v e
    exact ⟨m, e1, T.vr J e2⟩
theorem Wk.tch (K : Wk G A Z H xs I fp P St j h) (t : Tch Z W h h') (hI : I ∉ W) : Wk G A Z H xs I fp P St j h' := by
  have kb : ∀ b ∈ fp, ∀ o, h.get? b = some o → h'.get? b = some o := fun b m o e => by
    rcases t b o e with q | ⟨q1, q2, _⟩
    · exact q
    · rcases K.fp b m with q | ⟨q, o', e', c⟩
      · subst q; exact absurd q1 hI
      · rw [e] at e'; cases e'
        rcases q2 with q2 | q2
        · exact absurd (List.mem_append_right _ q2) q
        · exact absurd q2 (c _)
  refine ⟨K.walk, K.walk.frame _ _ _ K.st kb, fun b m => ?_, fun i v e => ?_, K.iz, K.it, K.ib, K.ex⟩
  · rcases K.fp b m with q | ⟨q, o, e, c⟩
    · exact .inl q
    · exact .inr ⟨q, o, kb b m o e, c⟩
  · obtain ⟨m, e1, e2⟩ := K.item i v e
    exact ⟨m, e1, VR.keep t.keep (Sub.refl _ _) _ _ e2⟩
theorem Wk.trw (K : Wk G A Z H xs I fp P St j s.heap) (J : Inv G Z H s.heap) (T : TrW G Z F.all H s H' s') (hI : I ∉ F.all) : Wk G A Z H' xs I fp P St j s'.heap := by
  have hIX : I ∉ keys H ++ (G.TP ++ F.all) := fun m => by
    rcases List.mem_append.mp m with m | m
    · exact J.tpk I m K.iz
    · rcases List.mem_append.mp m with m | m
      · exact K.it m
      · exact hI m
  have xs' : Sub s.heap (keys H' ++ Z) (keys H ++ Z) := fun a m => by
    rcases List.mem_append.mp m with m | m
    · rcases T.sub a m with q | q
      · exact .inl (List.mem_append_left _ q)
      · exact .inr q
    · exact .inl (List.mem_append_right _ m)
  refine ⟨K.walk, K.walk.frame _ _ _ K.st fun b m o e => ?_, fun b m => ?_, fun i v e => ?_, K.iz, K.it, K.ib, K.ex⟩
  · rcases K.fp b m with q | ⟨q, o', e', c⟩
    · subst q; exact T.keep _ _ hIX e
    · rw [e] at e'; cases e'
      exact T.kp b o q (c _) e
  · rcases K.fp b m with q | ⟨q, o, e, c⟩
    · exact .inl q
    · exact .inr ⟨xs'.not q e, o, T.kp b o q (c _) e, c⟩
  · obtain ⟨m, e1, e2⟩ := K.item i v e
    exact ⟨m, e1, VR.keep T.kp xs' _ _ e2⟩
theorem Wk.tch_of (K : Wk G A Z H xs I fp P St j h) (J : Inv G Z H h) (hk : ∀ b o, b ∉ [I] → h.get? b = some o → h'.get? b = some o) (he : ∃ o, h'.get? I = some o) : Tch Z [I] h h' := fun b o e => by
  by_cases q : b = I
  · subst q; exact .inr ⟨.head _, .inl K.iz, he⟩
  · exact .inl (hk b o (fun m => q (List.mem_singleton.mp m)) e)
theorem Wk.wok (K : Wk G A Z H xs I fp P St j h) (J : Inv G Z H h) : WOk G H [I] := fun a m => by
  rw [List.mem_singleton.mp m]
  exact ⟨K.it, fun q => J.tpk I q K.iz, K.ib⟩
theorem wk_next {Q : Option Value → Shared → Prop} (K : Wk G A Z H xs I fp P St j s.heap) (J : Inv G Z H s.heap) (hj : j < xs.length)
    (hQ : ∀ v m s', xs[j]? = some m → VR G (keys H ++ Z) s'.heap m v → Tch Z [I] s.heap s'.heap → TrW G Z [I] H s H s' → Wk G A Z H xs I fp P St (j + 1) s'.heap → Q (some v) s') :
    wpAny (model G.prog G.w) A (pyNext (.ref I)) Q E s := by
  refine K.walk.item j s Q E hj K.st fun v h' tk hp hst hk => ?_
  have he : ∃ o, h'.get? I = some o := K.ex _ _ hst
  have t := K.tch_of J hk he
  obtain ⟨m, e1, e2⟩ := K.item j v hp
  have T := TrW.tch J t (K.wok J) tk
  refine hQ v m _ e1 (VR.keep t.keep (Sub.refl _ _) _ _ e2) t T ⟨K.walk, hst, fun b m => ?_, fun i v e => ?_, K.iz, K.it, K.ib, K.ex⟩
  · rcases K.fp b m with q | ⟨q, o, e, c⟩
    · exact .inl q
    · have hb : b ∉ [I] := fun m => q (List.mem_append_right _ (List.mem_singleton.mp m ▸ K.iz))
      exact .inr ⟨q, o, hk b o hb e, c⟩
  · obtain ⟨m, e1, e2⟩ := K.item i v e
    exact ⟨m, e1, VR.keep t.keep (Sub.refl _ _) _ _ e2⟩
theorem wk_done {Q : Option Value → Shared → Prop} (K : Wk G A Z H xs I fp P St xs.length s.heap)
    (hQ : ∀ h' tk, (∀ b o, b ≠ I → s.heap.get? b = some o → h'.get? b = some o) → Q none { s with heap := h', toks := tk }) : wpAny (model G.prog G.w) A (pyNext (.ref I)) Q E s :=
  K.walk.done s Q E K.st fun h' tk hk => hQ h' tk fun b o hb => hk b o fun m => hb (List.mem_singleton.mp m)
theorem Itr.wk (K : Itr G A Z H xs I fp P St s) (hB : G.B.get? I = none) (hT : ∀ t ∈ G.TP, t ≠ I) : Wk G A ([I] ++ Z) H xs I fp P St 0 s.heap :=
  ⟨K.walk, K.st, fun b m => by
    by_cases q : b = I
    · exact .inl q
    · rcases K.fp b m with e | ⟨h1, h2⟩
      · exact .inl e
      · refine .inr ⟨fun m => ?_, h2⟩
        rcases List.mem_append.mp m with m | m
        · exact h1 (List.mem_append_left _ m)
        · rcases List.mem_append.mp m with m | m
          · exact q (List.mem_singleton.mp m)
          · exact h1 (List.mem_append_right _ m), K.item, List.mem_append_left _ (.head _), fun m => hT I m rfl, hB, K.ex⟩
theorem Inv.tchN {N : List Addr} (I : Inv G (N ++ Z) H h) (hs : ∀ a o, a ∉ N → h.get? a = some o → h'.get? a = some o) (hN : WOk G H N) (hZ : ∀ a ∈ Z, a ∉ N) : Inv G Z H h' := by
  have kp : Keep (keys H ++ (N ++ Z)) h h' := fun a o ha hc e => hs a o (fun q => ha (List.mem_append_right _ (List.mem_append_left _ q))) e
  have up : ∀ {m : List MV} {v : List Value}, VRs G (keys H ++ (N ++ Z)) h m v → VRs G (keys H ++ Z) h' m v := fun r => (VRs.keep kp (Sub.refl _ _) _ _ r).sub fun a m => mem_z m
  have tp : ∀ a ∈ G.TP, a ∈ Z := fun a m => by
    rcases List.mem_append.mp (I.tp a m) with q | q
    · exact absurd m (hN a q).1
    · exact q
  refine ⟨fun a o e => hs a o (fun q => by rw [(hN a q).2.2] at e; cases e) (I.keep a o e), fun a o e m => I.base a o e (mem_z m), fun t ht => ?_, tp, fun a m q => I.tpk a m (List.mem_append_right _ q), I.nd, fun a xs m => ?_, fun a m => ?_⟩
  · obtain ⟨ps, g, t1, t2⟩ := I.tabs t ht
    have hT := tp _ (List.mem_map_of_mem (f := fun x : Addr × Addr × Str => x.2.1) ht)
    exact ⟨ps, hs _ _ (hZ _ hT) g, t1, fun pos c' e => let ⟨c, ec, hc, rc⟩ := t2 pos c' e; ⟨c, ec, fun m => hc (mem_z m), codeRec_keep kp hc rc⟩⟩
  · obtain ⟨n, vs, g, r⟩ := I.cells a xs m
    have hak : a ∈ keys H := List.mem_map_of_mem (f := fun x : Addr × List MV => x.1) m
    exact ⟨n, vs, hs _ _ (fun q => (hN a q).2.1 hak) g, up r⟩
  · obtain ⟨o, e⟩ := I.lt a (List.mem_append_right _ m)
    exact ⟨o, hs a o (hZ a m) e⟩
theorem VR.tchN {N : List Addr} (hs : ∀ a o, a ∉ N → h.get? a = some o → h'.get? a = some o) {m : MV} {v : Value} (r : VR G (keys H ++ (N ++ Z)) h m v) : VR G (keys H ++ Z) h' m v :=
  (VR.keep (fun a o ha hc e => hs a o (fun q => ha (List.mem_append_right _ (List.mem_append_left _ q))) e) (Sub.refl _ _) _ _ r).sub fun a m => mem_z m
theorem FR.tchN {N : List Addr} (R : FR G C env F (N ++ Z) l H h) (hs : ∀ a o, a ∉ N → h.get? a = some o → h'.get? a = some o) (hF : ∀ a ∈ F.all, a ∉ N) (hf : ∀ a ∈ F.fc, a ∉ N) :
    FR G C env F Z l H h' :=
  R.map (VR.tchN hs) (fun a m o e => hs a o (m.elim (hF a) (hf a)) e) R.offA (fun a m => (List.mem_append.mp (R.z a m)).elim (fun q => absurd q (hF a (List.mem_append_left _ m))) id) fun a m q => R.zc a m (List.mem_append_right _ q)
theorem Tr.ofN {N : List Addr} (hN : ∀ a ∈ N, s.heap.get? a = none) (I' : Inv G Z H' s'.heap) (hk : ∀ a o, a ∉ keys H ++ (G.TP ++ N) → s.heap.get? a = some o → s'.heap.get? a = some o) (hsub : ∀ a ∈ keys H', a ∈ keys H ∨ s.heap.get? a = none)
    (hg : (s'.gens, s'.drawn) = (s.gens, s.drawn)) (ho : s'.os = s.os) : Tr G Z H s H' s' :=
  ⟨I', fun a o m e => hk a o (fun q => m (by
    rcases List.mem_append.mp q with q | q
    · exact List.mem_append_left _ q
    · rcases List.mem_append.mp q with q | q
      · exact List.mem_append_right _ q
      · rw [hN a q] at e; cases e)) e, hsub, hg, ho⟩
end
end Mine
namespace Mine
variable {G : Stat}
theorem cellsFrom_other (y : Str) : ∀ (names : List (Str × NameKind)) (n : Nat) (acc : List (Str × Addr)), (∀ p ∈ names, p.2 = .cell → p.1 ≠ y) → (cellsFrom n names acc).lookup y = acc.lookup y
  | [], n, acc, _ => rfl
  | (x, k) :: r, n, acc, h => by
    unfold cellsFrom
    split
    · rename_i hk
      have hx : x ≠ y := h (x, k) (.head _) (by simpa using hk)
      rw [cellsFrom_other y r _ _ fun p m => h p (.tail _ m), List.lookup_cons, show (y == x) = false by simpa using fun e => hx e.symm]
    · exact cellsFrom_other y r _ _ fun p m => h p (.tail _ m)
theorem cellsFrom_new (y : Str) : ∀ (names : List (Str × NameKind)) (h : Heap) (acc : List (Str × Addr)), ((y, NameKind.cell) ∈ names ∨ ∃ c, acc.lookup y = some c ∧ h.IsCell c none) →
    ∃ c, (cellsFrom h.objs.size names acc).lookup y = some c ∧ (pushCells h names).IsCell c none ∧ (h.objs.size ≤ c ∨ acc.lookup y = some c)
  | [], h, acc, hm => by
    rcases hm with q | ⟨c, e, ic⟩
    · cases q
    · exact ⟨c, e, ic, .inr e⟩
  | (x, k) :: r, h, acc, hm => by
    unfold cellsFrom pushCells
    split
    · have hz : (h.push { cls := .type "cell", data := .cell none }).objs.size = h.objs.size + 1 := Heap.size_push ..
      have ih := cellsFrom_new y r (h.push { cls := .type "cell", data := .cell none }) ((x, h.objs.size) :: acc) (by
        by_cases e : y = x
        · refine .inr ⟨h.objs.size, by rw [List.lookup_cons, e, beq_self_eq_true], ⟨_, Heap.get?_push_size _ rfl, rfl⟩⟩
        · rcases hm with q | ⟨c, e1, ic⟩
          · rcases List.mem_cons.mp q with q | q
            · cases q; exact absurd rfl e
            · exact .inl q
          · exact .inr ⟨c, by rw [List.lookup_cons, show (y == x) = false by simpa using e]; exact e1, ic.keeps fun b o e => Heap.get?_push_of_some _ e⟩)
      rw [hz] at ih
      obtain ⟨c, h1, h2, h3⟩ := ih
      refine ⟨c, h1, h2, ?_⟩
      rcases h3 with h3 | h3
      · exact .inl (by lia)
      · rw [List.lookup_cons] at h3
        split at h3
        · cases h3; exact .inl (Nat.le_refl _)
        · exact .inr h3
    · rename_i hk
      refine cellsFrom_new y r h acc ?_
      rcases hm with q | q
      · rcases List.mem_cons.mp q with q | q
        · cases q; exact absurd (show (NameKind.cell == NameKind.cell) = true from rfl) hk
        · exact .inl q
      · exact .inr q
theorem nfe_comp {M : Model} {A : Around} {E : Value → Shared → Prop} {s : Shared} {scope : Scope} {globals : Addr} {cl : List (Str × Addr)} {qual : Str} {env : Env} {Q : Env → Shared → Prop}
    (hQ : Q (newEnv scope s.heap.objs.size globals (cellsFrom (s.heap.objs.size + 1) scope.names cl) qual none .none (some env) builtinsNs) { s with heap := pushCells (s.heap.push { cls := .type "dict", data := .dict #[] }) scope.names }) :
    wpAny M A (newFunctionEnv scope globals cl [] qual none .none (some env)) Q E s := by
  simp only [newFunctionEnv, Option.isSome_some, if_true]
  refine wpAny_bind (wpAny_alloc ?_)
  refine wpAny_bind (wpAny_layCells _ (fun name kind cells => by cases kind == NameKind.cell <;> simp) _ _ _ _ ?_)
  rw [show ({ s with heap := s.heap.push { cls := .type "dict", data := .dict #[] } } : Shared).heap.objs.size = s.heap.objs.size + 1 from Heap.size_push ..]
  first
    | (rw [List.forIn_nil]; exact wpAny_bind (wpAny_pure (wpAny_pure hQ)))
    | exact wpAny_bind (wpAny_pure (wpAny_pure hQ))
section
variable {d : Nat} {C : Ctx} {env : Env} {F : FP} {Z Z' W : List Addr} {l : Loc} {H H' H₁ : MH} {s s' s₁ : Shared} {A : Around} {E : Value → Shared → Prop} {p pn : Pos} {h h' : Heap}
theorem vr_clo_of {k : Nat} {cs : List MV} {f : Addr} {o : Obj} {fd : FuncData} {c : Addr} (hf : f ∉ keys H ++ Z) (g : h.get? f = some o) (e : o.data = .func fd) (ok : FdOk (G.clo k) fd) (ec : fd.code = .ref c) (hc : c ∉ keys H ++ Z)
    (rc : h.CodeRec (.ref c) (G.clo k).qual) (hs : ∀ x, (G.clo k).self = some x → ∃ c', fd.closure.lookup x = some c' ∧ c' ∉ keys H ++ Z ∧ h.IsCell c' (some (.ref f)))
    (vf : VF G (keys H ++ Z) h fd.closure cs (G.clo k).free) : VR G (keys H ++ Z) h (.clo k cs) (.ref f) := by
  unfold VR
  exact ⟨f, o, fd, c, rfl, hf, g, e, ok, ec, hc, rc, hs, vf⟩
theorem free_names {sc : Scope} {n : Str} : n ∈ freeNames sc ↔ (n, NameKind.free) ∈ sc.names := by
  unfold freeNames
  rw [List.mem_map]
  constructor
  · rintro ⟨⟨a, k⟩, hm, rfl⟩
    obtain ⟨h1, h2⟩ := List.mem_filter.mp hm
    have : k = .free := by simpa using h2
    subst this; exact h1
  · intro hm
    exact ⟨(n, .free), List.mem_filter.mpr ⟨hm, by simp⟩, rfl⟩
theorem cap_cell (R : FR G C env F Z l H h) {cap : List Nat} (hk : ∀ i ∈ cap, ∃ x, C.slots[i]? = some (x, SK.cc)) {n : Str} (hn : n ∈ cap.map C.nm) : ∃ a, env.cells.lookup n = some a := by
  obtain ⟨i, hi, rfl⟩ := List.mem_map.mp hn
  obtain ⟨x, hx⟩ := hk i hi
  obtain ⟨c, ec, _⟩ := cc_cell R hx
  exact ⟨c, ec⟩
theorem s_lm (hS : StatOk G) {k : Nat} {cap : List Nat} {ar : Arguments} {b : Expr} {sc : Scope} : EvS G (.lm k cap ar b sc p) := fun {d C env F Z l H s A E Q} ok rm R I hk => by
  rw [ah] at hk
  obtain ⟨ok, hk⟩ := hk
  obtain ⟨vs, ev, hk⟩ := lkW_of hk
  rw [tj]
  have hfree : ∀ n, (n, NameKind.free) ∈ sc.names → n ∈ cap.map C.nm := fun n hn => (ok.all n (free_names.mpr hn)).elim id fun e => by cases e
  have hcl := closureFor_eq sc env fun n hn => cap_cell R ok.kind (hfree n hn)
  refine kla_eval (by rw [defaultsOf_eq, ok.dfl.1, ok.dfl.2.1]; rfl) ?_
  rw [R.qual]
  refine wpAny_mono (mk_sound hS R I ok hcl) (fun v s' h => ?_) fun _ _ x => x
  obtain ⟨f, o, fd, c, rfl, hn, T, g, e, fok, ecl, ec, hc, rc⟩ := h
  refine ⟨_, _, hk, T, vr_clo_of (I.off hn) g e fok ec hc rc (fun x hx => by rw [ok.is] at hx; cases hx) ?_⟩
  rw [ok.is, ecl]
  refine VF.keep (T.kp I) (Sub.refl _ _) _ _ _ (vf_of R cap vs ev ok.kind fun i hi => ?_)
  refine closL_lookup _ _ _ _ (fun n hn => cap_cell R ok.kind (hfree n hn)) (.inl ?_)
  exact free_names.mp (ok.only _ (.inl (List.mem_map_of_mem hi)))
structure CompOk (c : CompI) (C : Ctx) (x : Str) (k : SK) : Prop where
  own : c.own = [(x, k)]
  hk : k = .loc ∨ k = .nc
  xl : c.scope.names.lookup x = some k.nk
  xd : (x == ("__debug__" : Str)) = false
  xc : (x == ("__classdict__" : Str)) = false
  xn : x ∉ c.cap.map C.nm
  kind : c.scope.kind = .function
  nocell : ∀ y ∈ c.scope.names, y.2 = .cell → y.1 = x ∧ k = .nc
  loc : ∀ y ∈ c.scope.names, y.2 = .local → c.scope.names.lookup y.1 = some .local
  free : ∀ n, (n, NameKind.free) ∈ c.scope.names → n ∈ c.cap.map C.nm
  capk : ∀ i ∈ c.cap, ∃ x k, C.slots[i]? = some (x, k) ∧ k ≠ .loc
  capf : ∀ i ∈ c.cap, c.scope.names.lookup (C.nm i) = some .free
  capn : (c.cap.map C.nm).Nodup
  glob : ∀ x ∈ c.globs, c.scope.names.lookup x = some .globalImplicit ∧ (x == ("__debug__" : Str)) = false
theorem CompI.ok_of {c : CompI} (h : c.ok C = true) : ∃ x k, CompOk c C x k := by
  unfold CompI.ok at h
  simp only [Bool.and_eq_true] at h
  obtain ⟨⟨⟨⟨⟨h1, h2⟩, h3⟩, h4⟩, h5⟩, h6⟩ := h
  split at h1
  · rename_i x k e
    simp only [Bool.and_eq_true, Bool.not_eq_true'] at h1
    obtain ⟨⟨⟨⟨⟨a0, a1⟩, a5⟩, a2⟩, a3⟩, a4⟩ := h1
    have a5' := List.all_eq_true.mp a5
    have hk : k = .loc ∨ k = .nc := by cases k <;> first | exact .inl rfl | exact .inr rfl | cases a0
    have h3' := List.all_eq_true.mp h3
    have h4' := List.all_eq_true.mp h4
    have h6' := List.all_eq_true.mp h6
    refine ⟨x, k, e, hk, by simpa using a1, a2, a3, by simpa using a4, by simpa using h2, fun y hy hl => ?_, fun y hy hl => ?_, fun n hn => ?_, fun i hi => ?_, fun i hi => ?_, of_decide_eq_true h5, fun y hy => ?_⟩
    · have := a5' y hy
      rw [hl] at this
      have h6 : y.1 = x ∧ k.nk = .cell := by simpa using this
      exact ⟨h6.1, hk.elim (fun e => by rw [e] at h6; cases h6.2) id⟩
    · have := h3' y hy
      simp only [Bool.and_eq_true] at this
      have := this.1
      rw [hl] at this
      simpa using this
    · have := h3' _ hn
      simp only [Bool.and_eq_true] at this
      have := this.2
      simpa using this
    · have := h4' i hi
      simp only [Bool.and_eq_true] at this
      have := this.1
      split at this
      · cases this
      · rename_i y k e
        obtain ⟨y1, y2⟩ := y
        exact ⟨_, _, e, fun q => k y1 (by rw [q])⟩
      · cases this
    · have := h4' i hi
      simp only [Bool.and_eq_true] at this
      simpa using this.2
    · have := h6' y hy
      simp only [Bool.and_eq_true, Bool.not_eq_true'] at this
      exact ⟨by simpa using this.1, this.2⟩
  · cases h1
theorem lookup_relabel {env : Env} : ∀ {names : List (Str × NameKind)} {x : Str} {k : NameKind}, names.lookup x = some k →
    (names.map fun (n, k) => if (k == NameKind.free && env.scope.kind == .function && env.kindOf n == some .cell) then (n, NameKind.cell) else (n, k)).lookup x =
      some (if (k == NameKind.free && env.scope.kind == .function && env.kindOf x == some .cell) then .cell else k)
  | [], _, _, h => by cases h
  | (n, k) :: r, x, k', h => by
    rw [List.lookup_cons] at h
    rw [List.map_cons, List.lookup_cons]
    by_cases hx : x = n
    · subst hx
      rw [beq_self_eq_true] at h
      cases h
      dsimp only
      by_cases hc : (k == NameKind.free && env.scope.kind == .function && env.kindOf x == some .cell) = true
      · rw [if_pos hc, beq_self_eq_true, if_pos hc]
      · rw [if_neg hc, beq_self_eq_true, if_neg hc]
    · have hx' : (x == n) = false := by simpa using hx
      rw [hx'] at h
      have ih := lookup_relabel (env := env) (names := r) h
      dsimp only
      by_cases hc : (k == NameKind.free && env.scope.kind == .function && env.kindOf n == some .cell) = true
      · rw [if_pos hc, hx']; exact ih
      · rw [if_neg hc, hx']; exact ih
theorem closL_none (cells : List (Str × Addr)) (x : Str) : ∀ (names : List (Str × NameKind)) (cs : List (Str × Addr)), (x, NameKind.free) ∉ names → cs.lookup x = none → (closL cells names cs).lookup x = none
  | [], cs, _, h => h
  | (n, k) :: r, cs, hn, h => by
    rw [closL]
    split
    · rename_i hk
      have hk' : k = .free := by simpa using hk
      subst hk'
      refine closL_none cells x r _ (fun m => hn (.tail _ m)) ?_
      have hx : (x == n) = false := by
        cases e : x == n with
        | false => rfl
        | true => rw [beq_iff_eq.mp e] at hn; exact absurd (.head _) hn
      rw [List.lookup_cons, hx]; exact h
    · exact closL_none cells x r _ (fun m => hn (.tail _ m)) h
abbrev capL (c : CompI) (l : Loc) : Loc := c.cap.map fun i => (l[i]?).getD none
theorem any_cell (R : FR G C env F Z l H h) {i : Nat} {x : Str} {k : SK} (hx : C.slots[i]? = some (x, k)) (hk : k ≠ .loc) : (env.kindOf x = some .free ∨ env.kindOf x = some .cell) ∧ ∃ c, env.cells.lookup x = some c ∧ c ∉ keys H ++ G.TP ∧ (∃ o, h.get? c = some o) ∧
    ∀ v, l[i]? = some (some v) → ∃ rv, h.IsCell c (some rv) ∧ VR G (keys H ++ Z) h v rv := by
  by_cases hf : k = .fr
  · subst hf
    obtain ⟨kk, hv⟩ := R.free i x hx
    obtain ⟨c, ec⟩ := R.frx i x hx
    have hm := R.fro i x c hx ec
    refine ⟨kk, c, ec, R.fok c hm, R.frl c hm, fun v e => ?_⟩
    obtain ⟨c', rv, ec', _, _, _, _, ic, r⟩ := hv v e
    rw [ec] at ec'; cases ec'
    exact ⟨rv, ic, r⟩
  · have hk' : k = .nc ∨ k = .cc := by cases k <;> first | exact .inl rfl | exact .inr rfl | exact absurd rfl hk | exact absurd rfl hf
    obtain ⟨kk, c, ec, h1, h2, orv, ic, hv, _⟩ := R.cell i x k hx hk'
    have hc : c ∈ F.all := by
      rcases hk' with rfl | rfl
      · exact List.mem_append_left _ (.tail _ (h1 rfl))
      · exact List.mem_append_right _ (h2 rfl)
    refine ⟨.inr kk, c, ec, R.own c hc, R.lt c hc, fun v e => ?_⟩
    obtain ⟨rv, rfl, r⟩ := hv v e
    exact ⟨rv, ic, r⟩
theorem comp_frame {c : CompI} {x : Str} {ko : SK} (ok : CompOk c C x ko) (R : FR G C env F Z l H h) (I : Inv G Z H h) {D : Addr} (k : Grew h h') {m : Str → Option Value} (hns : h'.Ns D m) (hD : h.get? D = none) (hm : m x = none) {ncs : List Addr} (hncs : ∀ a ∈ ncs, h.get? a = none ∧ a ≠ D ∧ ∃ o, h'.get? a = some o) {nn : Nat}
    (hx : ko = .nc → ∃ c1, (cellsFrom nn c.scope.names (closL env.cells c.scope.names [])).lookup x = some c1 ∧ c1 ∈ ncs ∧ h'.IsCell c1 none) :
    FR G (c.ctx C) (compEnvC c.scope (cellsFrom nn c.scope.names (closL env.cells c.scope.names [])) D env) ⟨D, ncs, [], c.cap.filterMap fun i => env.cells.lookup (C.nm i)⟩ ((D :: ncs) ++ Z) (none :: capL c l) H h' := by
  have hN : ∀ a ∈ D :: ncs, h.get? a = none := fun a m => by
    rcases List.mem_cons.mp m with rfl | m
    · exact hD
    · exact (hncs a m).1
  have R' := R.addZ (N := D :: ncs) k hN
  have lk : ∀ i ∈ c.cap, (cellsFrom nn c.scope.names (closL env.cells c.scope.names [])).lookup (C.nm i) = env.cells.lookup (C.nm i) := fun i hi => by
    rw [cellsFrom_other _ _ _ _ fun p hp hc e => ok.xn ((ok.nocell p hp hc).1 ▸ e ▸ List.mem_map_of_mem hi)]
    refine closL_lookup _ _ _ _ (fun n hn => ?_) (.inl ?_)
    · obtain ⟨j, hj, rfl⟩ := List.mem_map.mp (ok.free n hn)
      obtain ⟨y, ky, hy, hk⟩ := ok.capk j hj
      obtain ⟨_, c', ec, _⟩ := any_cell R hy hk
      exact ⟨c', slot_name hy ▸ ec⟩
    · have := ok.capf i hi
      have go : ∀ {l : List (Str × NameKind)} {y : Str} {k : NameKind}, l.lookup y = some k → (y, k) ∈ l := by
        intro l y k
        induction l with
        | nil => intro h; cases h
        | cons q t ih =>
          intro h
          obtain ⟨a, b⟩ := q
          rw [List.lookup_cons] at h
          cases hb : y == a with
          | true => rw [hb] at h; cases h; rw [beq_iff_eq.mp hb]; exact .head _
          | false => rw [hb] at h; exact .tail _ (ih h)
      exact go this
  have slot : ∀ (i : Nat) (y : Str) (k : SK), (c.ctx C).slots[i]? = some (y, k) → (i = 0 ∧ y = x ∧ k = ko) ∨ ∃ j q, i = j + 1 ∧ c.cap[j]? = some q ∧ y = C.nm q ∧ k = .fr := fun i y k e => by
    unfold CompI.ctx at e
    rw [ok.own] at e
    cases i with
    | zero => cases e; exact .inl ⟨rfl, rfl, rfl⟩
    | succ j =>
      have e' : (c.cap.map fun i => (C.nm i, SK.fr))[j]? = some (y, k) := e
      rw [List.getElem?_map] at e'
      obtain ⟨q, hq, e2⟩ := Option.map_eq_some_iff.mp e'
      cases e2
      exact .inr ⟨j, q, rfl, hq, rfl, rfl⟩
  have names : (c.ctx C).slots.map (·.1) = x :: c.cap.map C.nm := by
    unfold CompI.ctx
    rw [ok.own]
    simp [List.map_map, Function.comp_def]
  have hcap : ∀ i ∈ c.cap, ∃ y k, C.slots[i]? = some (y, k) ∧ k ≠ .loc ∧ C.nm i = y := fun i hi => let ⟨y, k, hy, hk⟩ := ok.capk i hi; ⟨y, k, hy, hk, slot_name hy⟩
  have capmem : ∀ i ∈ c.cap, C.nm i ∈ C.slots.map (·.1) := fun i hi => by
    obtain ⟨y, k, hy, hk, e⟩ := hcap i hi
    rw [e]
    exact List.mem_map_of_mem (f := fun p : Str × SK => p.1) (List.mem_of_getElem? hy)
  have hfc : ∀ a, a ∈ (c.cap.filterMap fun i => env.cells.lookup (C.nm i)) → a ∉ keys H ++ G.TP ∧ ∃ o, h.get? a = some o := fun a ha => by
    obtain ⟨i, hi, e⟩ := List.mem_filterMap.mp ha
    obtain ⟨y, k, hy, hk, en⟩ := hcap i hi
    obtain ⟨_, c', ec, h1, h2, _⟩ := any_cell R hy hk
    rw [en, ec] at e; cases e
    exact ⟨h1, h2⟩
  have hDX := I.off hD
  have hl : ∀ (j q : Nat) (v : MV), c.cap[j]? = some q → (none :: capL c l : Loc)[j + 1]? = some (some v) → l[q]? = some (some v) := fun j q v hq e => by
    rw [List.getElem?_cons_succ, List.getElem?_map, hq] at e
    simp only [Option.map_some, Option.some.injEq] at e
    cases e' : l[q]? with
    | none => rw [e'] at e; cases e
    | some w => rw [e'] at e; rw [Option.getD_some] at e; rw [e]
  have dm : ∀ a, a ∈ D :: ncs ++ [] → a ∈ D :: ncs := fun a m => by simpa using m
  have nof : ko ≠ .fr := fun e => by rcases ok.hk with q | q <;> rw [q] at e <;> cases e
  have hgo : ∀ a ∈ D :: ncs, ∃ o, h'.get? a = some o := fun a m => by
    rcases List.mem_cons.mp m with rfl | m
    · obtain ⟨o, _, _, e, _⟩ := hns; exact ⟨o, e⟩
    · exact (hncs a m).2.2
  refine ⟨ok.kind, rfl, R.globals, R.builtins, ?_, R.qual, ?_, ?_, ?_, fun i y k e hk => ?_, fun i y e => ?_, fun y hy => ?_, fun y hy => ?_, fun y hy => ?_, fun i j y z k' k2 a e1 e2 hk hk2 => ?_, fun a m => ?_, ?_, fun a m => ?_, ?_, fun a m => ?_, fun a m => ?_, fun i y a e e1 => ?_, fun i y e => ?_, fun a m => ?_, fun a m => ?_⟩
  · intro _ e; cases e
  · unfold CompI.ctx
    rw [ok.own]
    simp
  · rw [names]
    exact List.nodup_cons.mpr ⟨ok.xn, ok.capn⟩
  · refine ⟨m, hns, fun i y e => ?_⟩
    rcases slot i y _ e with ⟨rfl, rfl, q⟩ | ⟨_, _, _, _, _, q⟩
    · refine ⟨?_, fun v e => by cases e⟩
      exact lookup_relabel_local (by rw [ok.xl, ← q]; rfl)
    · cases q
  · rcases slot i y _ e with ⟨rfl, rfl, q⟩ | ⟨_, _, _, _, _, q⟩
    · have hnc : ko = .nc := by
        rcases ok.hk with h1 | h1
        · rw [q, h1] at hk; rcases hk with hk | hk <;> cases hk
        · exact h1
      obtain ⟨c1, h1, h2, h3⟩ := hx hnc
      refine ⟨?_, c1, h1, fun _ => h2, fun e => ?_, none, h3, fun v e => (by cases e), fun _ _ => rfl⟩
      · have hxl : c.scope.names.lookup y = some NameKind.cell := by rw [ok.xl, hnc]; rfl
        have := lookup_relabel (env := env) hxl
        exact this
      · rw [q, hnc] at e; cases e
    · rw [q] at hk; rcases hk with hk | hk <;> cases hk
  · rcases slot i y _ e with ⟨_, _, q⟩ | ⟨j, q, rfl, hq, rfl, _⟩
    · exact absurd q.symm nof
    · have hqm : q ∈ c.cap := List.mem_of_getElem? hq
      obtain ⟨y', k', hy', hk', en⟩ := hcap q hqm
      obtain ⟨_, c', ec, h1, h2, hv⟩ := any_cell R' hy' hk'
      refine ⟨?_, fun v ev => ?_⟩
      · have := lookup_relabel (env := env) (ok.capf q hqm)
        have e2 : (compEnvC c.scope (cellsFrom nn c.scope.names (closL env.cells c.scope.names [])) D env).kindOf (C.nm q) = some (if (NameKind.free == NameKind.free && env.scope.kind == .function && env.kindOf (C.nm q) == some .cell) then .cell else .free) := this
        rw [e2]
        split
        · exact .inr rfl
        · exact .inl rfl
      · obtain ⟨rv, ic, r⟩ := hv v (hl j q v hq ev)
        have nn' : c' ∉ D :: ncs := fun m => by
          obtain ⟨_, c₂, ec₂, _, ⟨o, g⟩, _⟩ := any_cell R hy' hk'
          rw [ec] at ec₂; cases ec₂
          rw [hN c' m] at g; cases g
        refine ⟨c', rv, ?_, h1, fun e => nn' (by rw [e]; exact .head _), fun m => nn' (.tail _ m), nofun, ic, r⟩
        show (cellsFrom nn c.scope.names (closL env.cells c.scope.names [])).lookup (C.nm q) = some c'
        rw [lk q hqm, en]; exact ec
  · have := lookup_relabel (env := env) (ok.glob y hy).1
    exact this
  · rw [names] at hy
    rcases List.mem_append.mp hy with hy | hy
    · rcases List.mem_cons.mp hy with rfl | hy
      · exact ok.xd
      · obtain ⟨i, hi, rfl⟩ := List.mem_map.mp hy
        exact R.dbg _ (List.mem_append_left _ (capmem i hi))
    · exact (ok.glob y hy).2
  · rw [names] at hy
    rcases List.mem_cons.mp hy with rfl | hy
    · exact ok.xc
    · obtain ⟨i, hi, rfl⟩ := List.mem_map.mp hy
      exact R.cls _ (capmem i hi)
  · rcases slot i _ _ e1 with ⟨_, h1, q⟩ | ⟨_, _, _, _, _, q⟩
    · rcases slot j _ _ e2 with ⟨_, h2, q2⟩ | ⟨_, _, _, _, _, q2⟩
      · intro _ _; rw [h1, h2]
      · rw [q2] at hk2; rcases hk2 with hk2 | hk2 <;> cases hk2
    · rw [q] at hk; rcases hk with hk | hk <;> cases hk
  · have hn := hN a (dm a m)
    intro q
    rcases List.mem_append.mp q with q | q
    · exact I.off hn (List.mem_append_left _ q)
    · exact I.off hn (List.mem_append_right _ (I.tp a q))
  · refine ⟨fun m => ?_, nofun⟩
    rw [List.append_nil] at m
    exact (hncs D m).2.1 rfl
  · exact List.mem_append_left _ m
  · nofun
  · have hn := hN a (dm a m)
    cases e : G.B.get? a with
    | none => rfl
    | some o => have := I.keep a o e; rw [hn] at this; cases this
  · exact hgo a (dm a m)
  · rcases slot i y _ e with ⟨_, _, q⟩ | ⟨j, q, rfl, hq, rfl, _⟩
    · exact absurd q.symm nof
    · have hqm : q ∈ c.cap := List.mem_of_getElem? hq
      exact List.mem_filterMap.mpr ⟨q, hqm, by rw [← lk q hqm]; exact e1⟩
  · rcases slot i y _ e with ⟨_, _, q⟩ | ⟨j, q, rfl, hq, rfl, _⟩
    · exact absurd q.symm nof
    · have hqm : q ∈ c.cap := List.mem_of_getElem? hq
      obtain ⟨y', k', hy', hk', en⟩ := hcap q hqm
      obtain ⟨_, c', ec, _⟩ := any_cell R hy' hk'
      exact ⟨c', by show (cellsFrom nn c.scope.names (closL env.cells c.scope.names [])).lookup (C.nm q) = some c'; rw [lk q hqm, en]; exact ec⟩
  · exact (hfc a m).1
  · obtain ⟨o, e⟩ := (hfc a m).2
    exact ⟨o, k _ _ e⟩
end
end Mine
namespace Mine
variable {G : Stat}
section
variable {d : Nat} {C : Ctx} {env : Env} {F : FP} {Z Z' W : List Addr} {l : Loc} {H H' H₁ : MH} {s s' s₁ : Shared} {A : Around} {E : Value → Shared → Prop} {p pn : Pos} {h h' : Heap}
theorem Inv.perm (I : Inv G Z H h) (hz : ∀ a, a ∈ Z' ↔ a ∈ Z) : Inv G Z' H h := by
  have hx : ∀ a, a ∈ keys H ++ Z' → a ∈ keys H ++ Z := fun a m => by
    rcases List.mem_append.mp m with m | m
    · exact List.mem_append_left _ m
    · exact List.mem_append_right _ ((hz a).mp m)
  exact ⟨I.keep, fun a o e m => I.base a o e (hx a m), fun t ht => let ⟨ps, g, t1, t2⟩ := I.tabs t ht; ⟨ps, g, t1, fun pos c' e => let ⟨c, ec, hc, rc⟩ := t2 pos c' e; ⟨c, ec, fun m => hc (hx c m), rc⟩⟩,
    fun a m => (hz a).mpr (I.tp a m), fun a m q => I.tpk a m ((hz a).mp q), I.nd, fun a xs m => let ⟨n, vs, g, r⟩ := I.cells a xs m; ⟨n, vs, g, r.sub hx⟩, fun a m => I.lt a ((hz a).mp m)⟩
theorem FR.perm (R : FR G C env F Z l H h) (hz : ∀ a, a ∈ Z' ↔ a ∈ Z) : FR G C env F Z' l H h :=
  R.map (fun r => r.sub fun a m => (List.mem_append.mp m).elim (fun m => List.mem_append_left _ m) fun m => List.mem_append_right _ ((hz a).mp m)) (fun _ _ _ e => e) R.offA (fun a m => (hz a).mpr (R.z a m)) fun a m q => R.zc a m ((hz a).mp q)
structure CompEnd (G : Stat) (C : Ctx) (env : Env) (F : FP) (Z : List Addr) (l : Loc) (H : MH) (s : Shared) (Q : MV → MH → Prop) (acc : Value) (K : Addr) (s' : Shared) : Prop where
  ex : ∃ m H', Q m H' ∧ Inv G ([K] ++ Z) H' s'.heap ∧ VR G (keys H' ++ ([K] ++ Z)) s'.heap m acc ∧ (∀ a ∈ keys H', a ∈ keys H ∨ s.heap.get? a = none) ∧ FR G C env F ([K] ++ Z) l H' s'.heap
  keep : KeepE (keys H ++ G.TP) s.heap s'.heap
  kn : s.heap.get? K = none
  kz : K ∉ Z
  kf : K ∉ F.all ∧ K ∉ F.fc
  kt : K ∉ G.TP
  kb : G.B.get? K = none
  ns : ∃ mm, s'.heap.Ns K mm
  gens : (s'.gens, s'.drawn) = (s.gens, s.drawn)
  os : s'.os = s.os
theorem comp_loop {Cc : Ctx} {ec : Env} {Fc : FP} {Zw Ww : List Addr} {lc : Loc} {s₄ : Shared} {o : Option MV} {x : Str} {elt : ME} {ifs : MEs} {iter : Expr} {pt : Pos} {scp : Scope} {xs : List MV} {I D : Addr} {fp : List Addr} {P : Nat → Value → Prop} {St : Nat → Heap → Prop} {Q : MV → MH → Prop}
    {RR : Result → Shared → Prop} {ko : SK} (hE : EvS G elt) (hA : EvA G ifs) (okE' : okE Cc elt = true) (okA : okEs Cc ifs = true) (rm : Room A d) (hx : Cc.slots[0]? = some (x, ko)) (hko : ko = .loc ∨ ko = .nc)
    (wz : ∀ a ∈ Ww, a ∈ Zw) (wt : ∀ a ∈ Ww, a ∉ G.TP ∧ G.B.get? a = none) (wI : I ∈ Ww) (wD : D ∈ Ww) (nDI : D ≠ I) (fW : ∀ a ∈ Fc.all, a ∈ Ww ∧ a ≠ D ∧ a ≠ I) (wF : ∀ a ∈ Ww, a ∉ F.all ∧ a ∉ F.fc) (wc : D ∉ Fc.fc ∧ I ∉ Fc.fc) (hl : xs.length ≤ 2 ^ 20)
    (K0 : Wk G A Zw H xs I fp P St 0 s₄.heap) (J0 : Inv G Zw H s₄.heap) (F0 : FR G Cc ec Fc Zw (o :: lc) H s₄.heap) (R0 : FR G C env F Zw l H s₄.heap) (D0 : s₄.heap.get? D = some (lobj #[] 0))
    (hk : compGo (fun x H' K => evA G d ifs Cc (some x :: lc) H' K) (fun x H' K => ev G d elt Cc (some x :: lc) H' K) (fun acc H' => Q (.list acc) H') xs [] H)
    (hR : ∀ ms H' o s' vs nn, Inv G Zw H' s'.heap → FR G Cc ec Fc Zw (o :: lc) H' s'.heap → FR G C env F Zw l H' s'.heap → s'.heap.get? D = some (lobj vs nn) → VRs G (keys H' ++ Zw) s'.heap ms vs.toList → TrW G Zw Ww H s₄ H' s' → Q (.list ms) H' →
      ∀ h9 tk, (∀ b o, b ≠ I → s'.heap.get? b = some o → h9.get? b = some o) → RR (.ok .next) { s' with heap := h9, toks := tk }) :
    codeAny (model G.prog G.w) A (.compLoop (.ListComp (den Cc elt) [⟨.Name (Cc.nm 0) pt, iter, dens Cc ifs, 0⟩] scp p) 0 (.ref I) (.ref D) ec) RR s₄ := by
  have wn : ∀ {H' : MH} {hh : Heap}, Inv G Zw H' hh → ∀ a ∈ Ww, a ∉ keys H' ++ G.TP := fun Jx a m q => (List.mem_append.mp q).elim (fun q => Jx.tpk _ q (wz a m)) (wt a m).1
  have wn1 : ∀ {W : List Addr} {H' : MH} {hh : Heap}, Inv G Zw H' hh → ∀ a ∈ Ww, a ∉ W → a ∉ keys H' ++ G.TP := fun Jx a m _ => wn Jx a m
  have oI : ∀ b ∈ [I], b ∈ Ww := fun b m => List.mem_singleton.mp m ▸ wI
  have oD : ∀ b ∈ [D], b ∈ Ww := fun b m => List.mem_singleton.mp m ▸ wD
  have nI : ∀ b ∈ [I], b ∉ Fc.all := fun b m q => (fW b q).2.2 (List.mem_singleton.mp m)
  have nD : ∀ b ∈ [D], b ∉ Fc.all := fun b m q => (fW b q).2.1 (List.mem_singleton.mp m)
  have cI : ∀ b ∈ [I], b ∉ Fc.fc := fun b m => List.mem_singleton.mp m ▸ wc.2
  have cD : ∀ b ∈ [D], b ∉ Fc.fc := fun b m => List.mem_singleton.mp m ▸ wc.1
  refine codeAny_compLoop_tests (fun n s' => ∀ T : Prop, (∀ j ms H' o vs nn, j + n = xs.length → ms.length ≤ j → Wk G A Zw H' xs I fp P St j s'.heap → Inv G Zw H' s'.heap → FR G Cc ec Fc Zw (o :: lc) H' s'.heap → FR G C env F Zw l H' s'.heap →
      s'.heap.get? D = some (lobj vs nn) → VRs G (keys H' ++ Zw) s'.heap ms vs.toList → TrW G Zw Ww H s₄ H' s' → compGo (fun x H' K => evA G d ifs Cc (some x :: lc) H' K) (fun x H' K => ev G d elt Cc (some x :: lc) H' K) (fun acc H' => Q (.list acc) H') (xs.drop j) ms H' → T) → T)
    (fun n s' h => h _ fun j ms H' o vs nn hj hms Kj Jj Fj Rj gD rD T hgo => ?_) xs.length fun T k => k 0 [] H o #[] 0 (Nat.zero_add _) (Nat.le_refl _) K0 J0 F0 R0 D0 vrs_nil' (TrW.refl J0) hk
  by_cases hlt : j < xs.length
  · refine wk_next Kj Jj hlt fun v m s₅ em rv t5 T5 K5 => ?_
    have ed : xs.drop j = m :: xs.drop (j + 1) := by
      obtain ⟨hh, e⟩ := List.getElem?_eq_some_iff.mp em
      rw [List.drop_eq_getElem_cons hlt, e]
    rw [ed, compGo] at hgo
    have F5 := Fj.tch t5 nI cI
    have R5 := Rj.tch t5 (fun a m => (wF a (oI a m)).1) (fun a m => (wF a (oI a m)).2)
    have gD5 : s₅.heap.get? D = some (lobj vs nn) := (t5 _ _ gD).elim id fun ⟨q, _⟩ => absurd (List.mem_singleton.mp q) nDI
    have T5' := T.trans (T5.mono oI (wn1 Jj))
    refine wpAny_assign_Name (store_sound F5 T5.inv (i := 0) ⟨x, ko, hx, hko.imp id .inl⟩ rv fun s₆ t6 T6 F6 _ => ?_)
    have F6' : FR G Cc ec Fc Zw (some m :: lc) H' s₆.heap := F6
    have R6 := R5.tch t6 (fun a m => (wF a (fW a m).1).1) (fun a m => (wF a (fW a m).1).2)
    have gD6 : s₆.heap.get? D = some (lobj vs nn) := (t6 _ _ gD5).elim id fun ⟨q, _⟩ => absurd rfl (fW D q).2.1
    have rD6 := VRs.keep t6.keep (Sub.refl _ _) _ _ (VRs.keep t5.keep (Sub.refl _ _) _ _ rD)
    have K6 := K5.tch t6 (fun q => (fW I q).2.2 rfl)
    have T6' := T5'.trans (T6.mono (fun b m => (fW b m).1) (wn1 T5.inv))
    refine wpAny_mono (hA okA rm F6' T6.inv hgo) (fun b s₇ hb => ?_) fun _ _ x => x
    obtain ⟨H7, hgo, T7⟩ := hb
    have F7 := F6'.tr T6.inv T7
    have R7 := R6.tr T6.inv T7
    have K7 := K6.tr T6.inv T7
    have gD7 : s₇.heap.get? D = some (lobj vs nn) := T7.keep _ _ (wn T6.inv D wD) gD6
    have rD7 := T7.vrs T6.inv rD6
    have T7' := T6'.trans (TrW.of T7 (wn T6.inv))
    have hn : xs.length - (j + 1) < n := by lia
    have hj' : j + 1 + (xs.length - (j + 1)) = xs.length := by lia
    cases b with
    | false => exact ⟨_, hn, fun T k => k (j + 1) ms H7 (some m) vs nn hj' (Nat.le_succ_of_le hms) K7 T7.inv F7 R7 gD7 rD7 T7' hgo⟩
    | true =>
      rw [if_pos rfl]
      refine wpAny_mono (hE okE' rm F7 T7.inv hgo) (fun y s₈ hy => ?_) fun _ _ x => x
      obtain ⟨my, H8, hgo, T8, ry⟩ := hy
      have gD8 : s₈.heap.get? D = some (lobj vs nn) := T8.keep _ _ (wn T7.inv D wD) gD7
      have rD8 := T8.vrs T7.inv rD7
      have ln := vrs_len rD8
      rw [Array.length_toList] at ln
      refine wpAny_list_append_plain ⟨nn, gD8⟩ (fun h9 hp hs => ?_) (by rw [ln, sizeLine_eq]; lia)
      obtain ⟨n9, g9⟩ := hp
      have t9 : Tch Zw [D] s₈.heap h9 := Tch.one hs (wz D wD) ⟨_, g9⟩
      have T9 := TrW.tch T8.inv t9 (fun a q => ⟨(wt a (oD a q)).1, fun q' => wn T8.inv a (oD a q) (List.mem_append_left _ q'), (wt a (oD a q)).2⟩) s₈.toks
      refine ⟨_, hn, fun T k => k (j + 1) (ms ++ [my]) H8 (some m) (vs.push y) n9 hj' (by rw [List.length_append]; exact Nat.succ_le_succ hms) ((K7.tr T7.inv T8).tch t9 fun q => nDI (List.mem_singleton.mp q).symm) T9.inv
        ((F7.tr T7.inv T8).tch t9 nD cD) ((R7.tr T7.inv T8).tch t9 (fun a m => (wF a (oD a m)).1) (fun a m => (wF a (oD a m)).2)) g9 ?_ ((T7'.trans (TrW.of T8 (wn T7.inv))).trans (T9.mono oD (wn1 T8.inv))) hgo⟩
      rw [Array.toList_push]
      exact VRs.keep t9.keep (Sub.refl _ _) _ _ (vrs_append rD8 (vrs_cons' ry vrs_nil'))
  · have hje : j = xs.length := by lia
    subst hje
    rw [List.drop_length, compGo] at hgo
    exact wk_done Kj (hR ms H' o s' vs nn Jj Fj Rj gD rD T hgo)
theorem comp_go {c : CompI} {x : Str} {elt : ME} {ifs : MEs} {iter : Expr} {pt : Pos} {scp : Scope} {xs : List MV} {I : Addr} {fp : List Addr} {P : Nat → Value → Prop} {St : Nat → Heap → Prop} {Q : MV → MH → Prop}
    {RR : Value → Addr → Result → Shared → Prop}
    {ko : SK} (ok : CompOk c C x ko) (hE : EvS G elt) (hA : EvA G ifs) (okE' : okE (c.ctx C) elt = true) (okA : okEs (c.ctx C) ifs = true) (rm : Room A d)
    (R : FR G C env F Z l H s.heap) (J : Inv G Z H s.heap) (hn : s.heap.get? I = none) (gr : Grew s.heap s₁.heap) (hg : (s₁.gens, s₁.drawn) = (s.gens, s.drawn)) (ho : s₁.os = s.os) (K : Itr G A Z H xs I fp P St s₁) (hl : xs.length ≤ 2 ^ 20)
    (hk : compGo (fun x H' K => evA G d ifs (c.ctx C) (some x :: capL c l) H' K) (fun x H' K => ev G d elt (c.ctx C) (some x :: capL c l) H' K) (fun acc H' => Q (.list acc) H') xs [] H)
    (hR : ∀ acc D s', CompEnd G C env F Z l H s Q acc D s' → RR acc D (.ok .next) s') :
    wpAny (model G.prog G.w) A (newList []) (fun acc s₃ => wpAny (model G.prog G.w) A (newFunctionEnv c.scope env.globals (closL env.cells c.scope.names []) [] env.qual none .none (some env)) (fun cenv s₄ =>
      codeAny (model G.prog G.w) A (.compStart (.ListComp (den (c.ctx C) elt) [⟨.Name ((c.ctx C).nm 0) pt, iter, dens (c.ctx C) ifs, 0⟩] scp p) 0 (.ref I) acc { cenv with scope := relabel c.scope env }) (RR acc cenv.locals) s₄) E s₃) E s₁ := by
  have hIB : G.B.get? I = none := by
    cases e : G.B.get? I with
    | none => rfl
    | some o => have := J.keep I o e; rw [hn] at this; cases this
  have hIT : ∀ t ∈ G.TP, t ≠ I := fun t ht q => by
    subst q; exact some_none (J.lt t (J.tp t ht)) hn
  have K0 : Wk G A ([I] ++ Z) H xs I fp P St 0 s₁.heap := K.wk hIB hIT
  have J1 : Inv G ([I] ++ Z) H s₁.heap := K.inv
  have R1 : FR G C env F ([I] ++ Z) l H s₁.heap := R.addZ gr fun a m => by rw [List.mem_singleton.mp m]; exact hn
  refine wpAny_newObj_type (nfe_comp ?_)
  dsimp only
  generalize hD : s₁.heap.objs.size = D
  have hDn : s₁.heap.get? D = none := hD ▸ fresh_size _
  have g2 : Grew s₁.heap (s₁.heap.push { cls := .type "list", data := .seq ([] : List Value).toArray }) := Grew.push _ _
  have oneD : ∀ a ∈ [D], s₁.heap.get? a = none := fun a m => by rw [List.mem_singleton.mp m]; exact hDn
  have hDo : (s₁.heap.push { cls := .type "list", data := .seq ([] : List Value).toArray }).get? D = some (lobj #[] 0) := hD ▸ Heap.get?_push_size _ rfl
  have J2 := J1.addZ (N := [D]) g2 oneD fun a m => by rw [List.mem_singleton.mp m]; exact ⟨_, hDo⟩
  have R2 := R1.addZ g2 oneD
  have K2 := K0.addZ g2 oneD J1
  generalize hH2 : s₁.heap.push { cls := .type "list", data := .seq ([] : List Value).toArray } = H2 at g2 hDo J2 R2 K2 ⊢
  have hns0 : (pushCells (H2.push { cls := .type "dict", data := .dict #[] }) c.scope.names).Ns H2.objs.size (fun _ => none) := (Heap.Ns.new H2 (.type "dict")).keeps (pushCells_keeps _ _)
  have g30 : Grew H2 (pushCells (H2.push { cls := .type "dict", data := .dict #[] }) c.scope.names) := fun a o e => pushCells_keeps _ _ a o (Heap.get?_push_of_some _ e)
  have hxl : ko = .nc → ∃ c1, (cellsFrom (H2.objs.size + 1) c.scope.names (closL env.cells c.scope.names [])).lookup x = some c1 ∧ (pushCells (H2.push { cls := .type "dict", data := .dict #[] }) c.scope.names).IsCell c1 none ∧ H2.objs.size + 1 ≤ c1 := fun hk => by
    have hm : (x, NameKind.cell) ∈ c.scope.names := mem_of_lookup (by rw [ok.xl, hk]; rfl)
    obtain ⟨c1, h1, h2, h3⟩ := cellsFrom_new x c.scope.names (H2.push { cls := .type "dict", data := .dict #[] }) (closL env.cells c.scope.names []) (.inl hm)
    rw [show (H2.push { cls := .type "dict", data := .dict #[] }).objs.size = H2.objs.size + 1 from Heap.size_push ..] at h1 h3
    refine ⟨c1, h1, h2, h3.elim id fun e => ?_⟩
    rw [closL_none _ _ _ _ (fun q => ok.xn (ok.free x q)) rfl] at e; cases e
  generalize pushCells (H2.push { cls := .type "dict", data := .dict #[] }) c.scope.names = h₁ at hns0 g30 hxl ⊢
  generalize hKn : H2.objs.size = Kc at hns0 hxl ⊢
  have hns := hns0
  have g3 := g30
  have hKf : H2.get? Kc = none := hKn ▸ fresh_size _
  obtain ⟨ncs, hncs, hx⟩ : ∃ ncs : List Addr, (∀ a ∈ ncs, H2.get? a = none ∧ a ≠ Kc ∧ ∃ o, h₁.get? a = some o) ∧
      (ko = .nc → ∃ c1, (cellsFrom (Kc + 1) c.scope.names (closL env.cells c.scope.names [])).lookup x = some c1 ∧ c1 ∈ ncs ∧ h₁.IsCell c1 none) := by
    rcases ok.hk with hk | hk
    · exact ⟨[], nofun, fun e => by rw [hk] at e; cases e⟩
    · obtain ⟨c1, h1, h2, h3⟩ := hxl hk
      refine ⟨[c1], fun a m => ?_, fun _ => ⟨c1, h1, .head _, h2⟩⟩
      rw [List.mem_singleton.mp m]
      exact ⟨Heap.get?_none_of_le (by rw [hKn]; exact Nat.le_of_lt h3), Nat.ne_of_gt h3, let ⟨o, e, _⟩ := h2; ⟨o, e⟩⟩
  have oneK : ∀ a ∈ Kc :: ncs, H2.get? a = none := fun a m => by
    rcases List.mem_cons.mp m with rfl | m
    · exact hKf
    · exact (hncs a m).1
  have hKo : ∀ a ∈ Kc :: ncs, ∃ o, h₁.get? a = some o := fun a m => by
    rcases List.mem_cons.mp m with rfl | m
    · obtain ⟨o, _, _, e, _⟩ := hns; exact ⟨o, e⟩
    · exact (hncs a m).2.2
  have J3 := J2.addZ g3 oneK hKo
  have R3 := R2.addZ g3 oneK
  have K3 := K2.addZ g3 oneK J2
  have Fi := comp_frame ok R2 J2 g3 hns hKf rfl hncs hx
  have g03 : Grew s.heap h₁ := fun a o e => g3 a o (g2 a o (gr a o e))
  have hNs : ∀ a ∈ Kc :: ncs, s.heap.get? a = none := fun a m => by
    cases e : s.heap.get? a with
    | none => rfl
    | some o => have := g2 _ _ (gr _ _ e); rw [oneK a m] at this; cases this
  have hKs : s.heap.get? Kc = none := hNs Kc (.head _)
  have hDs : s.heap.get? D = none := by
    cases e : s.heap.get? D with
    | none => rfl
    | some o => have := gr _ _ e; rw [hDn] at this; cases this
  have freshZ : ∀ a, s.heap.get? a = none → a ∉ Z ∧ a ∉ G.TP ∧ G.B.get? a = none ∧ a ∉ F.all ∧ a ∉ F.fc := fun a e => by
    refine ⟨fun m => some_none (J.lt a m) e, fun m => some_none (J.lt a (J.tp a m)) e, ?_, fun m => some_none (R.lt a m) e, fun m => some_none (R.frl a m) e⟩
    cases e' : G.B.get? a with
    | none => rfl
    | some o => have := J.keep a o e'; rw [e] at this; cases this
  have hND : ∀ a ∈ Kc :: ncs, a ≠ D := fun a m q => by have := oneK a m; rw [q, hDo] at this; cases this
  have hNI : ∀ a ∈ Kc :: ncs, a ≠ I := fun a m q => by
    obtain ⟨o, e⟩ := K0.ex _ _ K0.st
    have := g2 _ _ e
    rw [← q, oneK a m] at this; cases this
  have hKD : Kc ≠ D := hND Kc (.head _)
  have hKI : Kc ≠ I := hNI Kc (.head _)
  have hDI : D ≠ I := fun q => by
    obtain ⟨o, e⟩ := K0.ex _ _ K0.st
    rw [← q, hDn] at e; cases e
  have freshW : ∀ a ∈ (Kc :: ncs) ++ [D, I], s.heap.get? a = none := fun a m => by
    rcases List.mem_append.mp m with m | m
    · exact hNs a m
    · rcases List.mem_cons.mp m with rfl | m
      · exact hDs
      · rw [List.mem_singleton.mp m]; exact hn
  have fcK : ∀ a, s.heap.get? a = none → a ∉ c.cap.filterMap fun i => env.cells.lookup (C.nm i) := fun a e m => by
    obtain ⟨i, hi, e'⟩ := List.mem_filterMap.mp m
    obtain ⟨y, k, hy, hkk⟩ := ok.capk i hi
    obtain ⟨_, c', ec, _, ex, _⟩ := any_cell R hy hkk
    rw [slot_name hy, ec] at e'; cases e'
    exact some_none ex e
  have z3 : ∀ a ∈ (Kc :: ncs) ++ [D, I], a ∈ (Kc :: ncs) ++ ([D] ++ ([I] ++ Z)) := fun a m => by
    rcases List.mem_append.mp m with m | m
    · exact List.mem_append_left _ m
    · exact List.mem_append_right _ (List.mem_append_left (as := [D, I]) Z m)
  have wI : I ∈ (Kc :: ncs) ++ [D, I] := List.mem_append_right _ (.tail _ (.head _))
  have wD : D ∈ (Kc :: ncs) ++ [D, I] := List.mem_append_right _ (.head _)
  have hz : ∀ a, a ∈ [I] ++ ([D] ++ (ncs ++ ([Kc] ++ Z))) ↔ a ∈ (Kc :: ncs) ++ ([D] ++ ([I] ++ Z)) := fun a => by
    simp only [List.mem_append, List.mem_cons, List.not_mem_nil, or_false]
    constructor
    · rintro (h | h | h | h | h)
      · exact .inr (.inr (.inl h))
      · exact .inr (.inl h)
      · exact .inl (.inr h)
      · exact .inl (.inl h)
      · exact .inr (.inr (.inr h))
    · rintro ((h | h) | h | h | h)
      · exact .inr (.inr (.inr (.inl h)))
      · exact .inr (.inr (.inl h))
      · exact .inr (.inl h)
      · exact .inl h
      · exact .inr (.inr (.inr (.inr h)))
  have fAll : ∀ a ∈ (⟨Kc, ncs, [], c.cap.filterMap fun i => env.cells.lookup (C.nm i)⟩ : FP).all, a ∈ (Kc :: ncs) ++ [D, I] ∧ a ≠ D ∧ a ≠ I := fun a m => by
    have m' : a ∈ Kc :: ncs := by simpa using m
    exact ⟨List.mem_append_left _ m', hND a m', hNI a m'⟩
  have zI : ∀ a ∈ [D] ++ (ncs ++ ([Kc] ++ Z)), a ∉ [I] := fun a m q => by
    rw [List.mem_singleton.mp q] at m
    simp only [List.mem_append, List.mem_singleton] at m
    rcases m with m | m | m | m
    · exact hDI m.symm
    · exact hNI I (.tail _ m) rfl
    · exact hKI m.symm
    · exact (freshZ _ hn).1 m
  have tpZ : ∀ a ∈ G.TP, a ∈ [Kc] ++ Z := fun a m => List.mem_append_right _ (J.tp a m)
  have hDZ : D ∉ [Kc] ++ Z := fun m => (List.mem_append.mp m).elim (fun m => hKD (List.mem_singleton.mp m).symm) (freshZ _ hDs).1
  have hcs : (c.ctx C).slots[0]? = some (x, ko) := by unfold CompI.ctx; rw [ok.own]; rfl
  have Kns : Kc ∈ (Kc :: ncs) ++ ([D] ++ ([I] ++ Z)) := List.mem_append_left _ (.head _)
  generalize hec : compEnvC c.scope (cellsFrom (Kc + 1) c.scope.names (closL env.cells c.scope.names [])) Kc env = ec at Fi
  have hloc : (⟨Kc, ncs, [], c.cap.filterMap fun i => env.cells.lookup (C.nm i)⟩ : FP).L = Kc ∧ (⟨Kc, ncs, [], c.cap.filterMap fun i => env.cells.lookup (C.nm i)⟩ : FP).fc = c.cap.filterMap fun i => env.cells.lookup (C.nm i) := ⟨rfl, rfl⟩
  generalize hFc : (⟨Kc, ncs, [], c.cap.filterMap fun i => env.cells.lookup (C.nm i)⟩ : FP) = Fc at Fi fAll hloc
  rw [← hloc.2] at fcK
  generalize hZw : (Kc :: ncs) ++ ([D] ++ ([I] ++ Z)) = Zw at Fi R3 J3 K3 hz z3 Kns
  generalize hWw : (Kc :: ncs) ++ [D, I] = Ww at freshW z3 wI wD fAll
  have wt : ∀ a ∈ Ww, a ∉ G.TP ∧ G.B.get? a = none := fun a m => ⟨(freshZ _ (freshW a m)).2.1, (freshZ _ (freshW a m)).2.2.1⟩
  have loop : ∀ s₄ : Shared, s₄.heap = h₁ → (s₄.gens, s₄.drawn) = (s₁.gens, s₁.drawn) → s₄.os = s₁.os →
      codeAny (model G.prog G.w) A (.compLoop (.ListComp (den (c.ctx C) elt) [⟨.Name ((c.ctx C).nm 0) pt, iter, dens (c.ctx C) ifs, 0⟩] scp p) 0 (.ref I) (.ref D) ec) (RR (.ref D) Kc) s₄ := by
    intro s₄ e4 eg eo
    subst e4
    refine comp_loop hE hA okE' okA rm hcs ok.hk z3 wt wI wD hDI fAll (fun a m => (freshZ _ (freshW a m)).2.2.2) ⟨fcK _ hDs, fcK _ hn⟩ hl K3 J3 Fi R3 (g3 _ _ hDo) hk fun ms H' o s' vs nn Jj Fj Rj gD rD T hgo h9 tk hk9 => ?_
    have hs9 : ∀ a o, a ∉ [I] → s'.heap.get? a = some o → h9.get? a = some o := fun a o q e => hk9 a o (fun e' => q (by rw [e']; exact .head _)) e
    have wI9 : ∀ a ∈ [I], a ∈ Ww := fun b m => List.mem_singleton.mp m ▸ wI
    have J9 := (Jj.perm hz).tchN hs9 (fun a q => ⟨(wt a (wI9 a q)).1, fun q' => Jj.tpk _ q' (z3 a (wI9 a q)), (wt a (wI9 a q)).2⟩) zI
    have J10 : Inv G ([Kc] ++ Z) H' h9 := (J9.dropZ fun a m => List.mem_append_right _ (tpZ a m)).dropZ tpZ
    have Rp : FR G C env F ([Kc] ++ Z) l H' h9 := (((Rj.perm hz).tchN hs9 (fun a m q => (freshZ _ (freshW a (wI9 a q))).2.2.2.1 m) (fun a m q => (freshZ _ (freshW a (wI9 a q))).2.2.2.2 m)).dropZ (Z := ncs ++ ([Kc] ++ Z)) fun a m => List.mem_append_right _ (List.mem_append_right _ (R.z a m))).dropZ fun a m => List.mem_append_right _ (R.z a m)
    have rD9 : VRs G (keys H' ++ ([Kc] ++ Z)) h9 ms vs.toList := by
      have r1 : VRs G (keys H' ++ ([I] ++ ([D] ++ (ncs ++ ([Kc] ++ Z))))) s'.heap ms vs.toList := rD.sub fun a m => (List.mem_append.mp m).elim (fun m => List.mem_append_left _ m) fun m => List.mem_append_right _ ((hz a).mp m)
      have kp : Keep (keys H' ++ ([I] ++ ([D] ++ (ncs ++ ([Kc] ++ Z))))) s'.heap h9 := fun a o ha hc e => hs9 a o (fun q => ha (List.mem_append_right _ (List.mem_append_left _ q))) e
      exact (VRs.keep kp (Sub.refl _ _) _ _ r1).sub fun a m => (List.mem_append.mp m).elim (fun m => List.mem_append_left _ m) fun m => List.mem_append_right _ (List.mem_append_right _ (List.mem_append_right _ (List.mem_append_right _ m)))
    have hDX : D ∉ keys H' ++ ([Kc] ++ Z) := fun m => (List.mem_append.mp m).elim (fun m => Jj.tpk _ m (z3 D wD)) hDZ
    refine hR _ _ _ ⟨⟨.list ms, H', hgo, J10, ?_, fun a m => ?_, Rp⟩, fun a o q e => ?_, hKs, (freshZ _ hKs).1, (freshZ _ hKs).2.2.2, (freshZ _ hKs).2.1, (freshZ _ hKs).2.2.1, ?_, T.gens.trans (eg.trans hg), T.os.trans (eo.trans ho)⟩
    · unfold VR
      exact ⟨D, nn, vs, rfl, hDX, hs9 D _ (fun q => hDI (List.mem_singleton.mp q)) gD, rD9⟩
    · refine (T.sub a m).imp id fun q => ?_
      cases e : s.heap.get? a with
      | none => rfl
      | some o => have := g03 a o e; rw [q] at this; cases this
    · have ha : a ∉ Ww := fun q' => by rw [freshW a q'] at e; cases e
      refine hs9 a o (fun q' => ha (wI9 a q')) (T.keep a o (fun q' => ?_) (g03 a o e))
      rcases List.mem_append.mp q' with q' | q'
      · exact q (List.mem_append_left _ q')
      · exact (List.mem_append.mp q').elim (fun q' => q (List.mem_append_right _ q')) ha
    · obtain ⟨mm, hns', _⟩ := Fj.ns
      rw [hloc.1] at hns'
      obtain ⟨o', es, ep, g, r⟩ := hns'
      exact ⟨mm, o', es, ep, hs9 _ _ (fun q => hKI (List.mem_singleton.mp q)) g, r⟩
  subst hec
  refine codeAny_compStart_list (loop _ rfl rfl rfl) (K0.walk.self 0 _ _ _ ?_ (loop _ rfl rfl rfl))
  exact K3.st
end
end Mine
namespace Mine
variable {G : Stat}
section
variable {d : Nat} {C : Ctx} {env : Env} {F : FP} {Z Z' W : List Addr} {l : Loc} {H H' H₁ : MH} {s s' s₁ : Shared} {A : Around} {E : Value → Shared → Prop} {p pn : Pos} {h h' : Heap}
theorem CompEnd.letGo {Q : MV → MH → Prop} {acc : Value} {K : Addr} {tk : Tok} (J : Inv G Z H s.heap) (x : CompEnd G C env F Z l H s Q acc K s') (hs : Heap.SameBut K s'.heap h') :
    ∃ m H', Q m H' ∧ Tr G Z H s H' { s' with heap := h', toks := tk } ∧ VR G (keys H' ++ Z) h' m acc ∧ FR G C env F Z l H' h' := by
  obtain ⟨m, H', hq, I, r, hsub, R⟩ := x.ex
  have hs' : ∀ a o, a ∉ [K] → s'.heap.get? a = some o → h'.get? a = some o := fun a o q e => hs.extBut a o (fun e' => q (by rw [e']; exact .head _)) e
  have kw : WOk G H' [K] := fun a m => by
    rw [List.mem_singleton.mp m]
    exact ⟨x.kt, fun q => I.tpk _ q (by simp), x.kb⟩
  refine ⟨m, H', hq, ⟨I.tchN hs' kw fun a m q => x.kz (List.mem_singleton.mp q ▸ m), fun a o q e => ?_, hsub, x.gens, x.os⟩, r.tchN hs', R.tchN hs' (fun a m q => x.kf.1 (List.mem_singleton.mp q ▸ m)) (fun a m q => x.kf.2 (List.mem_singleton.mp q ▸ m))⟩
  refine hs' a o (fun q' => ?_) (x.keep a o q e)
  rw [List.mem_singleton.mp q', x.kn] at e; cases e
theorem comp_clos {c : CompI} {x : Str} {ko : SK} (ok : CompOk c C x ko) (R : FR G C env F Z l H h) : closureFor c.scope env = pure (closL env.cells c.scope.names []) :=
  closureFor_eq _ _ fun n hn => by
    obtain ⟨j, hj, rfl⟩ := List.mem_map.mp (ok.free n hn)
    obtain ⟨y, ky, hy, hk⟩ := ok.capk j hj
    obtain ⟨_, c', ec, _⟩ := any_cell R hy hk
    exact ⟨c', slot_name hy ▸ ec⟩
theorem s_comp {c : CompI} {m : Bool} {elt : ME} {pt : Pos} {it : MIt} {ifs : MEs} (hI : EvI G it) (hE : EvS G elt) (hA : EvA G ifs) : EvS G (.comp c m elt pt it ifs p) := fun {d C env F Z l H s A E Q} ok rm R I hk => by
  rw [rx, Bool.and_eq_true, Bool.and_eq_true, Bool.and_eq_true] at ok
  obtain ⟨⟨⟨ok1, ok2⟩, ok3⟩, ok4⟩ := ok
  obtain ⟨x, ko, ok1⟩ := CompI.ok_of ok1
  rw [ai] at hk
  rw [tm, eval_ListComp]
  refine wpAny_comprehension_free (use := none) rfl (fun x => no_setI _ _ _ _) (comp_clos ok1 R) ok1.kind ok1.loc (wpAny_mono (hI ok2 rm R I hk) (fun xv s₁ h => wpAny_mono h (fun itv s₂ h => ?_) fun _ _ x => x) fun _ _ x => x)
  obtain ⟨xs, H₁, s₁', ⟨hl, hgo⟩, T, i, fp, P, St, rfl, hn, gr, hg, ho, K⟩ := h
  have R₁ := R.tr I T
  refine comp_go (Q := fun m' H' => m = false ∧ Q m' H') (RR := fun acc C => compPost (model G.prog G.w) A E none (PV G Z H s Q) acc C) ok1 hE hA ok3 ok4 rm R₁ T.inv hn gr hg ho K hl hgo fun acc D s' x => ?_
  refine ⟨_, x.ns.choose_spec, fun h' hs => ?_⟩
  obtain ⟨m', H', ⟨_, hq⟩, T', r, _⟩ := x.letGo (tk := s'.toks) T.inv hs
  exact PV.after I T ⟨m', H', hq, T', r⟩
end
variable (hS : StatOk G)
include hS
mutual
theorem soundE : ∀ e : ME, EvS G e ∧ EvT G e
  | .cn p => ⟨s_cn, t_plain s_cn rfl rfl⟩
  | .cb b p => ⟨s_cb, t_plain s_cb rfl rfl⟩
  | .ci b p => ⟨s_ci, t_plain s_ci rfl rfl⟩
  | .cs b p => ⟨s_cs, t_plain s_cs rfl rfl⟩
  | .v i p => ⟨s_v, t_plain s_v rfl rfl⟩
  | .gc x v p => ⟨s_gc hS, t_plain (s_gc hS) rfl rfl⟩
  | .bin op a b p => ⟨s_bin (soundE a).1 (soundE b).1, t_plain (s_bin (soundE a).1 (soundE b).1) rfl rfl⟩
  | .rep a n m p => ⟨s_rep (soundE a).1 (soundE n).1, t_plain (s_rep (soundE a).1 (soundE n).1) rfl rfl⟩
  | .un .Not a p => ⟨s_un (soundE a).1, t_not (soundE a).2⟩
  | .un .USub a p => ⟨s_un (soundE a).1, t_plain (s_un (soundE a).1) rfl rfl⟩
  | .un .UAdd a p => ⟨s_un (soundE a).1, t_plain (s_un (soundE a).1) rfl rfl⟩
  | .un .Invert a p => ⟨s_un (soundE a).1, t_plain (s_un (soundE a).1) rfl rfl⟩
  | .bo op es p => ⟨s_bo (soundEs es).2.2.2, t_bo (soundEs es).2.1⟩
  | .ite t a b p => ⟨s_ite (soundE t).2 (soundE a).1 (soundE b).1, t_ite (soundE t).2 (soundE a).2 (soundE b).2⟩
  | .cmp op a b p => ⟨s_cmp (soundE a).1 (soundE b).1, t_cmp (soundE a).1 (soundE b).1⟩
  | .ls m es p => ⟨s_ls (soundEs es).1, t_plain (s_ls (soundEs es).1) rfl rfl⟩
  | .tp es p => ⟨s_tp (soundEs es).1, t_plain (s_tp (soundEs es).1) rfl rfl⟩
  | .ix a i p => ⟨s_ix (soundE a).1 (soundE i).1, t_plain (s_ix (soundE a).1 (soundE i).1) rfl rfl⟩
  | .slL a lo q p => ⟨s_slL (soundE a).1 (soundE lo).1, t_plain (s_slL (soundE a).1 (soundE lo).1) rfl rfl⟩
  | .slU a lo q p => ⟨s_slU (soundE a).1 (soundE lo).1, t_plain (s_slU (soundE a).1 (soundE lo).1) rfl rfl⟩
  | .slB a lo hi q p => ⟨s_slB (soundE a).1 (soundE lo).1 (soundE hi).1, t_plain (s_slB (soundE a).1 (soundE lo).1 (soundE hi).1) rfl rfl⟩
  | .cg f a pn es p => ⟨s_cg hS (soundEs es).1, t_plain (s_cg hS (soundEs es).1) rfl rfl⟩
  | .cgk f a pn es k e pk p => ⟨s_cgk hS (soundEs es).1 (soundE e).1, t_plain (s_cgk hS (soundEs es).1 (soundE e).1) rfl rfl⟩
  | .cv i pn es p => ⟨s_cv (soundEs es).1, t_plain (s_cv (soundEs es).1) rfl rfl⟩
  | .bi b pn es p => ⟨s_bi hS (soundEs es).1, t_plain (s_bi hS (soundEs es).1) rfl rfl⟩
  | .lst it m pn p => ⟨s_lst hS (soundI it).2, t_plain (s_lst hS (soundI it).2) rfl rfl⟩
  | .srt it k e pk pn p => ⟨fun ok => (by rw [rt] at ok; cases ok), fun ok => (by rw [rt] at ok; cases ok)⟩
  | .mt o m pa es mu p => ⟨s_mt (soundE o).1 (soundEs es).1, t_plain (s_mt (soundE o).1 (soundEs es).1) rfl rfl⟩
  | .lm k cap ar b sc p => ⟨s_lm hS, t_plain (s_lm hS) rfl rfl⟩
  | .comp c m elt pt it ifs p => ⟨s_comp (soundI it).1 (soundE elt).1 (soundEs ifs).2.2.1, t_plain (s_comp (soundI it).1 (soundE elt).1 (soundEs ifs).2.2.1) rfl rfl⟩
  | .fz e => ⟨s_fz (soundE e).1, fun _ _ _ _ hk => (by rw [tw] at hk; exact hk.elim)⟩
theorem soundEs : ∀ es : MEs, EvsS G es ∧ EvTs G es ∧ EvA G es ∧ EvB G es
  | .nil => ⟨ss_nil, ts_nil, as_nil, bs_nil⟩
  | .cons e .nil => ⟨ss_cons (soundE e).1 ss_nil, ts_cons (soundE e).2 ts_nil, as_cons (soundE e).2 as_nil, bs_one (soundE e).1⟩
  | .cons e (.cons e₂ es) => ⟨ss_cons (soundE e).1 (soundEs (.cons e₂ es)).1, ts_cons (soundE e).2 (soundEs (.cons e₂ es)).2.1, as_cons (soundE e).2 (soundEs (.cons e₂ es)).2.2.1, bs_cons (soundE e).1 (soundEs (.cons e₂ es)).2.2.2⟩
theorem soundI : ∀ it : MIt, EvI G it ∧ EvL G it
  | .it e => i_it (soundE e).1
  | .rng es pn p => i_rng hS (soundEs es).1
  | .rev e pn p => ⟨i_rev hS (soundE e).1, fun _ nr => (by cases nr)⟩
end
end Mine
namespace Mine
variable (G : Stat)
noncomputable def Inv0 (h : Heap) : Prop := ∀ a o, G.B.get? a = some o → h.get? a = some o
noncomputable def CallsP (k : Nat) (cs : List MV) (x : MV) (q : Int) : Prop :=
  ∀ (A : Around) (s : Shared) (X : List Addr) (fv v : Value) (E : Value → Shared → Prop), Room A 1 → Inv0 G s.heap → VR G X s.heap (.clo k cs) fv → VR G X s.heap x v →
    wpAny (model G.prog G.w) A (call fv [v]) (fun r s' => ∃ t h' tk, r = .int q t ∧ s' = { s with heap := h', toks := tk } ∧ Grew s.heap h') E s
noncomputable def augW (op : Operator) (a b : MV) (K : MV → Prop) : Prop :=
  match op with
  | .Add => match a with | .int x => (match b with | .int y => (K (.int (x + y))) | _ => False) | _ => False
  | .Sub => match a with | .int x => (match b with | .int y => (K (.int (x - y))) | _ => False) | _ => False
  | .LShift => match a with | .int x => (match b with | .int y => ((0 ≤ y ∧ (Builtin.Int.intBits x : Int) + y ≤ 2 ^ 27) ∧ K (.int (x * 2 ^ y.toNat))) | _ => False) | _ => False
  | .RShift => match a with | .int x => (match b with | .int y => ((0 ≤ y) ∧ K (.int (x / 2 ^ y.toNat))) | _ => False) | _ => False
  | _ => False
noncomputable def tupW (v : MV) (K : List MV → Prop) : Prop :=
  match v with
  | .tup xs => K xs
  | _ => False
noncomputable def unpW (v : MV) (K : MV → MV → Prop) : Prop := tupW v fun xs => acW xs fun a r => a1W r fun b => K a b
noncomputable def forGo (f : MV → Loc → MH → (Loc → MH → Prop) → Prop) (N : Loc → MH → Prop) : List MV → Loc → MH → Prop
  | [], l, H => N l H
  | x :: xs, l, H => f x l H fun l' H' => forGo f N xs l' H'
mutual
noncomputable def ex (d : Nat) : MS → Ctx → Loc → MH → (Loc → MH → Prop) → (MV → MH → Prop) → Prop
  | .asg i _ e _, C, l, H, N, _ => ev G d e C l H fun v H₁ => setOk C l i ∧ N (l.set i (some v)) H₁
  | .asg2 i _ j _ e _, C, l, H, N, _ => ev G d e C l H fun v H₁ => setOk C l i ∧ setOk C (l.set i (some v)) j ∧ N ((l.set i (some v)).set j (some v)) H₁
  | .unp i _ j _ e _ _, C, l, H, N, _ => ev G d e C l H fun v H₁ => match v with | .tup xs => (match xs with | a :: q => (match q with | b :: q => (match q with | [] => (setOk C l i ∧ setOk C (l.set i (some a)) j ∧ N ((l.set i (some a)).set j (some b)) H₁) | _ => False) | [] => False) | [] => False) | _ => False
  | .swp i _ j _ e₁ e₂ _ _ _, C, l, H, N, _ => (∃ x y, C.slots[i]? = some (x, .loc) ∧ C.slots[j]? = some (y, .loc) ∧ i ≠ j) ∧ ev G d e₁ C l H fun a H₁ => ev G d e₂ C l H₁ fun b H₂ => N ((l.set j (some b)).set i (some a)) H₂
  | .sst a ix e _ _, C, l, H, N, _ => ev G d e C l H fun v H₁ => ev G d a C l H₁ fun va H₂ => ev G d ix C l H₂ fun vi H₃ => setW H₃ va vi v fun H₄ => N l H₄
  | .aug i _ op e _, C, l, H, N, _ => match l[i]? with
    | some (some old) => ev G d e C l H fun v H₁ => augW op old v fun r => setOk C l i ∧ N (l.set i (some r)) H₁
    | _ => False
  | .ifs t b o _, C, l, H, N, R => evT G d t C l H (ev G d t C l H) fun c H₁ => match c with
    | true => exs d b C l H₁ N R
    | false => exs d o C l H₁ N R
  | .whl t b _, C, l, H, N, R => ∃ (Iv : Nat → Loc → MH → Prop) (n : Nat), Iv n l H ∧ ∀ n l H, Iv n l H → evT G d t C l H (ev G d t C l H) fun c H₁ => match c with
    | true => exs d b C l H₁ (fun l' H' => ∃ m, m < n ∧ Iv m l' H') R
    | false => N l H₁
  | .for_ i _ it b _, C, l, H, N, R => evI G d it C l H fun xs H₁ => forGo (fun x l' H' N' => setOk C l' i ∧ exs d b C (l'.set i (some x)) H' N' R) N xs l H₁
  | .ret e _, C, l, H, _, R => ev G d e C l H fun v H₁ => ∃ H₂, List.Sublist H₂ H₁ ∧ R v H₂
  | .ret0 _, _, _, H, _, R => R .none H
  | .del a ix _ _, C, l, H, N, _ => ev G d a C l H fun va H₁ => ev G d ix C l H₁ fun vi H₂ => delW H₂ va vi fun H₃ => N l H₃
  | .exq e _, C, l, H, N, _ => ev G d e C l H fun v H₁ => v = .none ∧ N l H₁
  | .dfn k i cap ar b sc _, C, l, H, N, _ => CloOk G C k (some (C.nm i)) (C.nm i) ar (.stmts b) sc cap ∧ ((∃ x, C.slots[i]? = some (x, .cc)) ∧ l[i]? = some none ∧ i ∉ cap) ∧ (match (capV l cap) with | some vs => (N (l.set i (some (.clo k vs))) H) | none => False)
  | .asr t _, C, l, H, N, _ => evT G d t C l H (ev G d t C l H) fun c H₁ => c = true ∧ N l H₁
  | .rse _, _, _, _, _, _ => False
  | .rsrt e k cap ar b sc _ _ _ _ _, C, l, H, _, R => ev G d e C l H fun v H₁ => match v with | .list xs => (match (capV l cap) with | some vs => (((2 ≤ d ∧ xs.length < 64) ∧ CloOk G C k none "<lambda>" ar (.expr b) sc cap) ∧ ∃ kz : List Int, (kz.length = xs.length ∧ ∀ (i : Nat) (x : MV) (q : Int), xs[i]? = some x → kz[i]? = some q → CallsP G k vs x q) ∧ ∀ ps : List (Int × MV), ps.Perm (kz.zip xs) → ps.Pairwise (fun p q => p.1 ≤ q.1) → R (.list (ps.map (·.2))) H₁) | none => False) | _ => False
noncomputable def exs (d : Nat) : MSs → Ctx → Loc → MH → (Loc → MH → Prop) → (MV → MH → Prop) → Prop
  | .nil, _, l, H, N, _ => N l H
  | .cons s r, C, l, H, N, R => ex d s C l H (fun l' H' => exs d r C l' H' N R) R
end
noncomputable def ME.notComp : ME → Bool
  | .comp .. => false | .fz (.comp ..) => false | .fz (.fz _) => false | _ => true
noncomputable def ME.notTup : ME → Bool
  | .cg .. => true | .cgk .. => true | .bi .. => true | .cv .. => true | _ => false
noncomputable def ME.asgOk : ME → Bool
  | .comp .. => true | e => e.notComp
mutual
noncomputable def okS (C : Ctx) : MS → Bool
  | .asg _ _ e _ => okE C e && e.asgOk
  | .asg2 _ _ _ _ e _ => okE C e
  | .unp _ _ _ _ e _ _ => okE C e && e.notTup
  | .swp _ pi _ pj e₁ e₂ _ _ _ => okE C e₁ && okE C e₂ && (pi.line == pj.line) && !([den C e₁, den C e₂].all (foldedForSure 8)) && !([den C e₁, den C e₂].all (constantsAlone 8))
  | .sst a ix e _ _ => okE C e && okE C a && okE C ix && e.notComp
  | .aug _ _ _ e _ => okE C e
  | .ifs t b o _ => okE C t && okSs C b && okSs C o
  | .whl t b _ => okE C t && okSs C b
  | .for_ _ _ it b _ => okI C it && okSs C b
  | .ret e _ => okE C e
  | .ret0 _ => true
  | .del a ix _ _ => okE C a && okE C ix
  | .exq e _ => okE C e && e.notComp
  | .dfn _ _ _ _ _ _ _ => true
  | .asr t _ => okE C t
  | .rse _ => true
  | .rsrt e _ _ _ _ _ _ _ _ _ _ => okE C e && C.globs.contains ("sorted" : Str)
noncomputable def okSs (C : Ctx) : MSs → Bool
  | .nil => true
  | .cons s r => okS C s && okSs C r
end
variable {G}
section
variable {d : Nat} {C : Ctx} {l : Loc} {H : MH} {N : Loc → MH → Prop} {R : MV → MH → Prop}
theorem s6 {u1 u2 e u3} : okS C (.asg u1 u2 e u3) = (okE C e && e.asgOk) := rfl
theorem vz {u1 u2 u3 u4 e u5} : okS C (.asg2 u1 u2 u3 u4 e u5) = (okE C e) := rfl
theorem w3 {u1 u2 u3 u4 e u5 u6} : okS C (.unp u1 u2 u3 u4 e u5 u6) = (okE C e && e.notTup) := rfl
theorem w4 {u1 pi u2 pj e₁ e₂ u3 u4 u5} : okS C (.swp u1 pi u2 pj e₁ e₂ u3 u4 u5) = (okE C e₁ && okE C e₂ && (pi.line == pj.line) && !([den C e₁, den C e₂].all (foldedForSure 8)) && !([den C e₁, den C e₂].all (constantsAlone 8))) := rfl
theorem w5 {a ix e u1 u2} : okS C (.sst a ix e u1 u2) = (okE C e && okE C a && okE C ix && e.notComp) := rfl
theorem w6 {u1 u2 u3 e u4} : okS C (.aug u1 u2 u3 e u4) = (okE C e) := rfl
theorem w7 {t b o u1} : okS C (.ifs t b o u1) = (okE C t && okSs C b && okSs C o) := rfl
theorem w8 {t b u1} : okS C (.whl t b u1) = (okE C t && okSs C b) := rfl
theorem w9 {u1 u2 it b u3} : okS C (.for_ u1 u2 it b u3) = (okI C it && okSs C b) := rfl
theorem wb {e u1} : okS C (.ret e u1) = (okE C e) := rfl
theorem zd {u1} : okS C (.ret0 u1) = (true) := rfl
theorem wd {a ix u1 u2} : okS C (.del a ix u1 u2) = (okE C a && okE C ix) := rfl
theorem we {e u1} : okS C (.exq e u1) = (okE C e && e.notComp) := rfl
theorem ze {u1 u2 u3 u4 u5 u6 u7} : okS C (.dfn u1 u2 u3 u4 u5 u6 u7) = (true) := rfl
theorem wf {t u1} : okS C (.asr t u1) = (okE C t) := rfl
theorem zf {u1} : okS C (.rse u1) = (true) := rfl
theorem wg {e u1 u2 u3 u4 u5 u6 u7 u8 u9 u10} : okS C (.rsrt e u1 u2 u3 u4 u5 u6 u7 u8 u9 u10) = (okE C e && C.globs.contains ("sorted" : Str)) := rfl
theorem zg : okSs C (.nil) = (true) := rfl
theorem wh {s r} : okSs C (.cons s r) = (okS C s && okSs C r) := rfl
theorem aa {i u1 e u2} : ex G d (.asg i u1 e u2) C l H N R = (ev G d e C l H fun v H₁ => setOk C l i ∧ N (l.set i (some v)) H₁) := rfl
theorem cf {i u1 j u2 e u3} : ex G d (.asg2 i u1 j u2 e u3) C l H N R = (ev G d e C l H fun v H₁ => setOk C l i ∧ setOk C (l.set i (some v)) j ∧ N ((l.set i (some v)).set j (some v)) H₁) := rfl
theorem cj {i u1 j u2 e u3 u4} : ex G d (.unp i u1 j u2 e u3 u4) C l H N R = (ev G d e C l H fun v H₁ => match v with | .tup xs => (match xs with | a :: q => (match q with | b :: q => (match q with | [] => (setOk C l i ∧ setOk C (l.set i (some a)) j ∧ N ((l.set i (some a)).set j (some b)) H₁) | _ => False) | [] => False) | [] => False) | _ => False) := rfl
theorem ck {i u1 j u2 e₁ e₂ u3 u4 u5} : ex G d (.swp i u1 j u2 e₁ e₂ u3 u4 u5) C l H N R = ((∃ x y, C.slots[i]? = some (x, .loc) ∧ C.slots[j]? = some (y, .loc) ∧ i ≠ j) ∧ ev G d e₁ C l H fun a H₁ => ev G d e₂ C l H₁ fun b H₂ => N ((l.set j (some b)).set i (some a)) H₂) := rfl
theorem cm {a ix e u1 u2} : ex G d (.sst a ix e u1 u2) C l H N R = (ev G d e C l H fun v H₁ => ev G d a C l H₁ fun va H₂ => ev G d ix C l H₂ fun vi H₃ => setW H₃ va vi v fun H₄ => N l H₄) := rfl
theorem co {i u1 op e u2} : ex G d (.aug i u1 op e u2) C l H N R = (match l[i]? with
    | some (some old) => ev G d e C l H fun v H₁ => augW op old v fun r => setOk C l i ∧ N (l.set i (some r)) H₁
    | _ => False) := rfl
theorem cq {t b o u1} : ex G d (.ifs t b o u1) C l H N R = (evT G d t C l H (ev G d t C l H) fun c H₁ => match c with
    | true => exs G d b C l H₁ N R
    | false => exs G d o C l H₁ N R) := rfl
theorem cu {t b u1} : ex G d (.whl t b u1) C l H N R = (∃ (Iv : Nat → Loc → MH → Prop) (n : Nat), Iv n l H ∧ ∀ n l H, Iv n l H → evT G d t C l H (ev G d t C l H) fun c H₁ => match c with
    | true => exs G d b C l H₁ (fun l' H' => ∃ m, m < n ∧ Iv m l' H') R
    | false => N l H₁) := rfl
theorem av {i u1 it b u2} : ex G d (.for_ i u1 it b u2) C l H N R = (evI G d it C l H fun xs H₁ => forGo (fun x l' H' N' => setOk C l' i ∧ exs G d b C (l'.set i (some x)) H' N' R) N xs l H₁) := rfl
theorem cw {e u1} : ex G d (.ret e u1) C l H N R = (ev G d e C l H fun v H₁ => ∃ H₂, List.Sublist H₂ H₁ ∧ R v H₂) := rfl
theorem cx {u1} : ex G d (.ret0 u1) C l H N R = (R .none H) := rfl
theorem cy {a ix u1 u2} : ex G d (.del a ix u1 u2) C l H N R = (ev G d a C l H fun va H₁ => ev G d ix C l H₁ fun vi H₂ => delW H₂ va vi fun H₃ => N l H₃) := rfl
theorem cz {e u1} : ex G d (.exq e u1) C l H N R = (ev G d e C l H fun v H₁ => v = .none ∧ N l H₁) := rfl
theorem aw {k i cap ar b sc u1} : ex G d (.dfn k i cap ar b sc u1) C l H N R = (CloOk G C k (some (C.nm i)) (C.nm i) ar (.stmts b) sc cap ∧ ((∃ x, C.slots[i]? = some (x, .cc)) ∧ l[i]? = some none ∧ i ∉ cap) ∧ (match (capV l cap) with | some vs => (N (l.set i (some (.clo k vs))) H) | none => False)) := rfl
theorem d8 {t u1} : ex G d (.asr t u1) C l H N R = (evT G d t C l H (ev G d t C l H) fun c H₁ => c = true ∧ N l H₁) := rfl
theorem wi {u1} : ex G d (.rse u1) C l H N R = (False) := rfl
theorem d9 {e k cap ar b sc u1 u2 u3 u4 u5} : ex G d (.rsrt e k cap ar b sc u1 u2 u3 u4 u5) C l H N R = (ev G d e C l H fun v H₁ => match v with | .list xs => (match (capV l cap) with | some vs => (((2 ≤ d ∧ xs.length < 64) ∧ CloOk G C k none "<lambda>" ar (.expr b) sc cap) ∧ ∃ kz : List Int, (kz.length = xs.length ∧ ∀ (i : Nat) (x : MV) (q : Int), xs[i]? = some x → kz[i]? = some q → CallsP G k vs x q) ∧ ∀ ps : List (Int × MV), ps.Perm (kz.zip xs) → ps.Pairwise (fun p q => p.1 ≤ q.1) → R (.list (ps.map (·.2))) H₁) | none => False) | _ => False) := rfl
theorem a9 : exs G d (.nil) C l H N R = (N l H) := rfl
theorem a8 {s r} : exs G d (.cons s r) C l H N R = (ex G d s C l H (fun l' H' => exs G d r C l' H' N R) R) := rfl
end
noncomputable def SP (G : Stat) (C : Ctx) (env : Env) (F : FP) (Z : List Addr) (H : MH) (s : Shared) (N : Loc → MH → Prop) (R : MV → MH → Prop) (f : Flow) (s' : Shared) : Prop :=
  match f with
  | .next => ∃ l' H', N l' H' ∧ TrW G Z F.all H s H' s' ∧ FR G C env F Z l' H' s'.heap
  | .ret v => ∃ m H', R m H' ∧ TrW G Z F.all H s H' s' ∧ VR G (keys H' ++ Z) s'.heap m v
  | _ => False
noncomputable def ExS (G : Stat) (st : MS) : Prop := ∀ {d : Nat} {C : Ctx} {env : Env} {F : FP} {Z : List Addr} {l : Loc} {H : MH} {s : Shared} {A : Around} {E : Value → Shared → Prop} {N : Loc → MH → Prop} {R : MV → MH → Prop},
  okS C st = true → Room A d → FR G C env F Z l H s.heap → Inv G Z H s.heap → ex G d st C l H N R → wpAny (model G.prog G.w) A (exec (denS C st) env) (SP G C env F Z H s N R) E s
noncomputable def ExsS (G : Stat) (st : MSs) : Prop := ∀ {d : Nat} {C : Ctx} {env : Env} {F : FP} {Z : List Addr} {l : Loc} {H : MH} {s : Shared} {A : Around} {E : Value → Shared → Prop} {N : Loc → MH → Prop} {R : MV → MH → Prop},
  okSs C st = true → Room A d → FR G C env F Z l H s.heap → Inv G Z H s.heap → exs G d st C l H N R → wpAny (model G.prog G.w) A (execs (denSs C st) env) (SP G C env F Z H s N R) E s
section
variable {d : Nat} {C : Ctx} {env : Env} {F : FP} {Z Z' W : List Addr} {l : Loc} {H H' H₁ : MH} {s s' s₁ : Shared} {A : Around} {E : Value → Shared → Prop} {p pn pi pj pt ps pe : Pos} {h h' : Heap} {N : Loc → MH → Prop} {R' : MV → MH → Prop}
theorem FR.off (R : FR G C env F Z l H h) : ∀ a ∈ F.all, a ∉ keys H ++ G.TP := R.own
theorem Tr.w (R : FR G C env F Z l H s.heap) (T : Tr G Z H s H' s') : TrW G Z F.all H s H' s' := TrW.of T R.own
theorem SP.after {f : Flow} {s₂ : Shared} (T : TrW G Z F.all H s H₁ s₁) (x : SP G C env F Z H₁ s₁ N R' f s₂) : SP G C env F Z H s N R' f s₂ := by
  cases f with
  | next => obtain ⟨l', H', q, U, r⟩ := x; exact ⟨l', H', q, T.trans U, r⟩
  | ret v => obtain ⟨l', H', q, U, r⟩ := x; exact ⟨l', H', q, T.trans U, r⟩
  | brk => exact x
  | cont => exact x
theorem no_swap {e : ME} {tg : Option Expr} {n : Nat} (h : e.notComp = true) : swapsWith (den C e) tg n env = pure false := by
  cases e <;> first | rfl | (cases h; done) | skip
  rename_i e
  cases e <;> first | rfl | (cases h; done)
theorem aug_sound {op : Operator} {a b : MV} {va vb : Value} {K : MV → Prop} (I : Inv G Z H s.heap) (ra : VR G (keys H ++ Z) s.heap a va) (rb : VR G (keys H ++ Z) s.heap b vb) (hk : augW op a b K) :
    wpAny (model G.prog G.w) A (inplaceOp op va vb) (PQ G Z H s K) E s := by
  have i2 : ∀ {op : Operator} {R : Int → Int → Prop}, i2W a b R → (∀ x y t u, R x y → wpAny (model G.prog G.w) A (inplaceOp op (.int x t) (.int y u)) (PQ G Z H s K) E s) → wpAny (model G.prog G.w) A (inplaceOp op va vb) (PQ G Z H s K) E s := fun {op R} hk f =>
    i2W_use (fun v u => wpAny (model G.prog G.w) A (inplaceOp op v u) (PQ G Z H s K) E s) ra rb hk f
  cases op with
  | Add => exact i2 hk fun x y t u hk => PyProof.Rows.iadd_int (pq_int I hk)
  | Sub => exact i2 hk fun x y t u hk => PyProof.Rows.isub_int (pq_int I hk)
  | LShift => exact i2 hk fun x y t u hk => ilshift_int hk.1.1 hk.1.2 (pq_int I hk.2)
  | RShift =>
    refine i2 hk fun x y t u hk => irshift_int hk.1 ?_
    have e : x.fdiv (2 ^ y.toNat) = x / 2 ^ y.toNat := Int.fdiv_eq_ediv_of_nonneg _ (Int.le_of_lt (Int.pow_pos (by decide)))
    rw [e]
    exact pq_int I hk.2
  | Mult | FloorDiv | Mod | Pow | BitAnd | BitOr | BitXor | Div | MatMult => exact False.elim hk
theorem store_go {i : Nat} {m : MV} {v : Value} (R : FR G C env F Z l H s.heap) (I : Inv G Z H s.heap) (hi : setOk C l i) (r : VR G (keys H ++ Z) s.heap m v) {Q : Unit → Shared → Prop}
    (hq : ∀ s', TrW G Z F.all H s H s' → Keep (keys H ++ Z) s.heap s'.heap → FR G C env F Z (l.set i (some m)) H s'.heap → Q () s') : wpAny (model G.prog G.w) A (storeName env (C.nm i) v) Q E s :=
  store_sound R I hi r fun s' t T R' _ => hq s' T t.keep R'
theorem x_asg {i : Nat} {e : ME} (he : EvS G e) (hc : e.asgOk = e.notComp) : ExS G (.asg i pi e p) := fun ok rm R I hk => by
  rw [s6, Bool.and_eq_true, hc] at ok
  rw [aa] at hk
  refine wpAny_Assign_Name (he.use ok.1 rm R I hk fun v s₁ m H₁ hk T r R₁ => store_go R₁ T.inv hk.1 r fun s₂ T₂ _ R₂ => ?_) (no_swap ok.2)
  exact ⟨_, _, hk.2, (T.w R).trans T₂, R₂⟩
theorem x_asgc {i : Nat} {c : CompI} {m : Bool} {elt : ME} {pt : Pos} {it : MIt} {ifs : MEs} {pc : Pos} (hI : EvI G it) (hE : EvS G elt) (hA : EvA G ifs) : ExS G (.asg i pi (.comp c m elt pt it ifs pc) p) := fun {d C env F Z l H s A E N R'} ok rm R I hk => by
  rw [s6, Bool.and_eq_true] at ok
  have ok' := ok.1
  rw [aa] at hk
  cases hsw : (env.blockKind == .function && env.kindOf (C.nm i) == some .local && pi.line == (den C (.comp c m elt pt it ifs pc)).pos.line && !(c.scope.names.any fun (n, k) => n == C.nm i && (k == .local || k == .cell))) with
  | false =>
    refine wpAny_Assign_Name (EvS.use (s_comp hI hE hA) ok' rm R I hk fun v s₁ m H₁ hk T r R₁ => store_go R₁ T.inv hk.1 r fun s₂ T₂ _ R₂ => ?_) (by rw [← hsw]; rfl)
    exact ⟨_, _, hk.2, (T.w R).trans T₂, R₂⟩
  | true =>
    rw [rx, Bool.and_eq_true, Bool.and_eq_true, Bool.and_eq_true] at ok'
    obtain ⟨⟨⟨ok1, ok2⟩, ok3⟩, ok4⟩ := ok'
    obtain ⟨x, ko, ok1⟩ := CompI.ok_of ok1
    rw [ai] at hk
    rw [tt, exec_Assign_Name_used _ _ _ _ (by rw [← hsw]; rfl)]
    refine wpAny_bind (wpAny_standAt (wpAny_bind ?_))
    show wpAny _ A (do let _ ← comprehension (.ListComp (den (c.ctx C) elt) [⟨.Name ((c.ctx C).nm 0) pt, denI C it, dens (c.ctx C) ifs, 0⟩] c.scope pc) c.scope env _ (newList []) false (eval (denI C it) env) (some (assign (.Name (C.nm i) pi) env))) _ _ s
    refine wpAny_bind (wpAny_mono (wpAny_comprehension_free (use := some (assign (.Name (C.nm i) pi) env)) (Q := fun _ s' => SP G C env F Z H s N R' .next s') rfl (fun x => no_setI _ _ _ _) (comp_clos ok1 R) ok1.kind ok1.loc
      (wpAny_mono (hI ok2 rm R I hk) (fun xv s₁ h => wpAny_mono h (fun itv s₂ h => ?_) fun _ _ x => x) fun _ _ x => x)) (fun _ s' hq => wpAny_pure (wpAny_pure hq)) fun _ _ e => e)
    obtain ⟨xs, H₁, s₁', ⟨hl, hgo⟩, T, j, fp, P, St, rfl, hn, gr, hg, ho, K⟩ := h
    have R₁ := R.tr I T
    refine comp_go (Q := fun m' H' => m = false ∧ setOk C l i ∧ N (l.set i (some m')) H') (RR := fun acc C' => compPost (model G.prog G.w) A E (some (assign (.Name (C.nm i) pi) env)) (fun _ s' => SP G C env F Z H s N R' .next s') acc C') ok1 hE hA ok3 ok4 rm R₁ T.inv hn gr hg ho K hl hgo fun acc D s' x => ?_
    obtain ⟨m', H', ⟨_, hset, hq⟩, Ix, r, hsub, Rx⟩ := x.ex
    show wpAny _ A (assign (.Name (C.nm i) pi) env acc) _ _ _
    refine wpAny_assign_Name (store_sound Rx Ix hset r fun s'' t T' R'' _ => ?_)
    obtain ⟨mm, hns⟩ := x.ns
    have hns' : s''.heap.Ns D mm := by
      obtain ⟨o, es, ep, g, rr⟩ := hns
      exact ⟨o, es, ep, (t _ _ g).elim id fun ⟨q, _⟩ => absurd q x.kf.1, rr⟩
    refine ⟨mm, hns', fun h' hs => ?_⟩
    have hs' : ∀ a o, a ∉ [D] → s''.heap.get? a = some o → h'.get? a = some o := fun a o q e => hs.extBut a o (fun e' => q (by rw [e']; exact .head _)) e
    have kw : WOk G H' [D] := fun a m => by
      rw [List.mem_singleton.mp m]
      exact ⟨x.kt, fun q => Ix.tpk _ q (by simp), x.kb⟩
    have I9 := T'.inv.tchN hs' kw fun a m q => x.kz (List.mem_singleton.mp q ▸ m)
    have R9 := R''.tchN hs' (fun a m q => x.kf.1 (List.mem_singleton.mp q ▸ m)) (fun a m q => x.kf.2 (List.mem_singleton.mp q ▸ m))
    refine ⟨_, H', hq, (T.w R).trans ⟨I9, fun a o q e => ?_, hsub, fun a m _ => ?_, ?_, ?_, ?_⟩, R9⟩
    · have e2 : s'.heap.get? a = some o := x.keep a o (fun q' => q (by
        rcases List.mem_append.mp q' with q' | q'
        · exact List.mem_append_left _ q'
        · exact List.mem_append_right _ (List.mem_append_left _ q'))) e
      refine hs' a o (fun q' => ?_) ((t _ _ e2).elim id fun ⟨q', _⟩ => absurd (List.mem_append_right _ (List.mem_append_right _ q')) q)
      rw [List.mem_singleton.mp q', x.kn] at e; cases e
    · exact R9.lt a m
    · exact T'.gens.trans x.gens
    · exact T'.os.trans x.os
    · intro a o ha hc e
      have e2 : s'.heap.get? a = some o := x.keep a o (fun q' => ha (by
        rcases List.mem_append.mp q' with q' | q'
        · exact List.mem_append_left _ q'
        · exact List.mem_append_right _ (T.inv.tp a q'))) e
      have aD : a ∉ [D] := fun q' => by rw [List.mem_singleton.mp q', x.kn] at e; cases e
      refine hs' a o aD (t.keep (H := H') a o (fun q' => ?_) hc e2)
      rcases List.mem_append.mp q' with q' | q'
      · rcases hsub a q' with q2 | q2
        · exact ha (List.mem_append_left _ q2)
        · rw [q2] at e; cases e
      · rcases List.mem_append.mp q' with q' | q'
        · exact aD q'
        · exact ha (List.mem_append_right _ q')
theorem x_asg2 {i j : Nat} {e : ME} (he : EvS G e) : ExS G (.asg2 i pi j pj e p) := fun ok rm R I hk => by
  rw [vz] at ok
  rw [cf] at hk
  refine wpAny_Assign_two (he.use ok rm R I hk fun v s₁ m H₁ hk T r R₁ => ?_)
  refine wpAny_assign_Name (store_go R₁ T.inv hk.1 r fun s₂ T₂ k₂ R₂ => ?_)
  refine wpAny_assign_Name (store_go R₂ T₂.inv hk.2.1 (VR.keep k₂ (Sub.refl _ _) _ _ r) fun s₃ T₃ _ R₃ => ?_)
  exact ⟨_, _, hk.2.2, ((T.w R).trans T₂).trans T₃, R₃⟩
theorem notTup_den {e : ME} {tg : Option Expr} {ts : List Expr} {k : Nat} {tp : Pos} {n : Nat} (h : e.notTup = true) : swapsWith (den C e) tg n env = pure false ∧ swappedStores [.Tuple ts k tp] (den C e) env = pure none := by
  cases e <;> first | exact ⟨rfl, rfl⟩ | (cases h; done)
theorem unpW_of {v : MV} {K : MV → MV → Prop} (hk : unpW v K) : ∃ a b, v = .tup [a, b] ∧ K a b := by
  cases v with
  | tup xs => cases xs with
    | nil => exact False.elim hk
    | cons a r => cases r with
      | nil => exact False.elim hk
      | cons b r => cases r with
        | nil => exact ⟨a, b, rfl, hk⟩
        | cons c r => exact False.elim hk
  | none | bool _ | int _ | str _ | list _ | ref _ | clo _ _ => exact False.elim hk
theorem x_unp {i j : Nat} {e : ME} (he : EvS G e) : ExS G (.unp i pi j pj e pt p) := fun {d C env F Z l H s A E N R'} ok rm R I hk => by
  rw [w3, Bool.and_eq_true] at ok
  rw [cj] at hk
  refine Assign_Tuple (hs := (notTup_den (n := p.line) (tg := some (.Tuple [.Name (C.nm i) pi, .Name (C.nm j) pj] 0 pt)) (ts := []) (k := 0) (tp := pt) (env := env) ok.2).1) (hw := (notTup_den (n := 0) (tg := none) (env := env) ok.2).2) (he.use ok.1 rm R I hk fun v s₁ m H₁ hk T r R₁ => ?_)
  obtain ⟨a, b, rfl, hk'⟩ := unpW_of hk
  obtain ⟨t, n, vs, rfl, hx, g, q⟩ := vr_tup r
  obtain ⟨va, q1, e1, ra, q2⟩ := vrs_cons q
  obtain ⟨vb, q3, rfl, rb, q4⟩ := vrs_cons q2
  rw [vrs_nil q4] at e1
  have hvs : vs = #[va, vb] := Array.ext' e1
  subst hvs
  refine assign_Tuple_tuple (items := #[va, vb]) rm.hd ⟨_, g, rfl, _, rfl⟩ rfl rfl fun h' hx' => ?_
  have gr : Grew s₁.heap h' := fun a o e => hx' a o (Nat.ne_of_lt (Heap.lt_size e)) e
  have T1 : Tr G Z H₁ s₁ H₁ { s₁ with heap := h' } := Tr.grow T.inv gr rfl rfl
  have R2 := R₁.tr T.inv T1
  have ra' := T1.vr T.inv ra
  have rb' := T1.vr T.inv rb
  show wpAny _ A (do holding [vb] (assign (.Name (C.nm i) pi) env va); do holding [] (assign (.Name (C.nm j) pj) env vb); pure ()) _ _ _
  refine wpAny_bind (wpAny_holding (wpAny_assign_Name (store_go R2 T1.inv hk'.1 ra' fun s₂ T₂ k₂ R₂ => ?_)))
  refine wpAny_bind (wpAny_holding (wpAny_assign_Name (store_go R₂ T₂.inv hk'.2.1 (VR.keep k₂ (Sub.refl _ _) _ _ rb') fun s₃ T₃ _ R₃ => wpAny_pure ?_)))
  exact ⟨_, _, hk'.2.2, (((T.trans I T1).w R).trans T₂).trans T₃, R₃⟩
theorem no_star : ∀ (e : ME) (x : Expr) (q : Pos), den C e ≠ .Starred x q
  | .fz e, x, q => no_star e x q
  | .cn _, _, _ | .cb _ _, _, _ | .ci _ _, _, _ | .cs _ _, _, _ | .v _ _, _, _ | .gc _ _ _, _, _ | .bin _ _ _ _, _, _ | .rep _ _ _ _, _, _ | .un _ _ _, _, _ | .bo _ _ _, _, _ | .ite _ _ _ _, _, _ | .cmp _ _ _ _, _, _
  | .ls _ _ _, _, _ | .tp _ _, _, _ | .ix _ _ _, _, _ | .slL _ _ _ _, _, _ | .slU _ _ _ _, _, _ | .slB _ _ _ _ _, _, _
  | .cg _ _ _ _ _, _, _ | .cgk _ _ _ _ _ _ _ _, _, _ | .cv _ _ _ _, _, _ | .bi _ _ _ _, _, _ | .lst _ _ _ _, _, _ | .srt _ _ _ _ _ _, _, _ | .mt _ _ _ _ _ _, _, _ | .lm _ _ _ _ _ _, _, _ | .comp _ _ _ _ _ _ _, _, _ => fun h => (by cases h)
theorem any2 {f : Expr → Bool} {e₁ e₂ : Expr} (hf : ∀ e, f e = true → ∃ z q, e = .Starred z q) (n1 : ∀ z q, e₁ ≠ .Starred z q) (n2 : ∀ z q, e₂ ≠ .Starred z q) : ¬ [e₁, e₂].any f = true := fun h => by
  obtain ⟨e, he, hh⟩ := List.any_eq_true.mp h
  obtain ⟨z, q, rfl⟩ := hf e hh
  rcases List.mem_cons.mp he with he | he
  · exact n1 z q he.symm
  · exact n2 z q (List.mem_singleton.mp he).symm
theorem swapped_two {env : Env} {x y : Str} {e₁ e₂ : Expr} {pi pj pt pe : Pos} (kx : env.kindOf x = some .local) (ky : env.kindOf y = some .local) (hbk : env.blockKind = .function) (hpl : (pj.line == pi.line) = true) (hyx : (y == x) = false)
    (f1 : [e₁, e₂].all (foldedForSure 8) = false) (f2 : [e₁, e₂].all (constantsAlone 8) = false) (n1 : ∀ z q, e₁ ≠ .Starred z q) (n2 : ∀ z q, e₂ ≠ .Starred z q) :
    swappedStores [.Tuple [.Name x pi, .Name y pj] 0 pt] (.Tuple [e₁, e₂] 0 pe) env = pure (some [x, y]) := by
  have hb : (env.blockKind != .function) = false := by rw [hbk]; rfl
  have k1 : (env.kindOf x == some .local && pi.line == pi.line) = true := by rw [kx, beq_self_eq_true, beq_self_eq_true]; rfl
  have k2 : (env.kindOf y == some .local && pj.line == pi.line) = true := by rw [ky, hpl, beq_self_eq_true]; rfl
  have ed : ([x, y].eraseDups.length != [x, y].length) = false := by
    rw [List.eraseDups_cons, List.filter_cons, hyx]; rfl
  have nt : ∀ {b : Bool}, b = false → ¬ b = true := fun h => by rw [h]; decide
  have nm : ∀ {f : Expr → Option Str}, f (.Name x pi) = some x → f (.Name y pj) = some y → [Expr.Name x pi, Expr.Name y pj].filterMap f = [x, y] := fun h1 h2 => by rw [List.filterMap_cons_some h1, List.filterMap_cons_some h2]; rfl
  unfold swappedStores
  refine (if_neg (nt (b := _ || _) (by rw [hb]; rfl))).trans ((if_neg (any2 (fun e h => ?_) n1 n2)).trans ?_)
  · cases e <;> first | exact ⟨_, _, rfl⟩ | cases h
  · dsimp only
    rw [nm]
    · exact (if_neg (nt (b := _ || _) (by rw [ed]; rfl))).trans ((if_neg (nt f1)).trans (if_neg (nt f2)))
    · exact if_pos k1
    · exact if_pos k2
theorem x_swp {i j : Nat} {e₁ e₂ : ME} (h1 : EvS G e₁) (h2 : EvS G e₂) : ExS G (.swp i pi j pj e₁ e₂ pt pe p) := fun {d C env F Z l H s A E N R'} ok rm R I hk => by
  rw [w4, Bool.and_eq_true, Bool.and_eq_true, Bool.and_eq_true, Bool.and_eq_true, Bool.not_eq_true', Bool.not_eq_true'] at ok
  obtain ⟨⟨⟨⟨ok1, ok2⟩, ok3⟩, ok4⟩, ok5⟩ := ok
  rw [ck] at hk
  obtain ⟨⟨x, y, hx, hy, hij⟩, hk⟩ := hk
  · obtain ⟨m0, hns, hv⟩ := R.ns
    have kx := (hv i x hx).1
    have ky := (hv j y hy).1
    have hxy : (x == y) = false := by
      have : x ≠ y := fun e => hij (slot_inj R.nd hx (e ▸ hy))
      simpa using this
    have hyx : (y == x) = false := by rw [Bool.beq_comm]; exact hxy
    have hbk : env.blockKind = .function := by unfold Env.blockKind; rw [R.kind]; rfl
    have hw : swappedStores [.Tuple [.Name (C.nm i) pi, .Name (C.nm j) pj] 0 pt] (.Tuple [den C e₁, den C e₂] 0 pe) env = pure (some [C.nm i, C.nm j]) := by
      rw [slot_name hx, slot_name hy]
      exact swapped_two kx ky hbk (by rw [beq_iff_eq] at ok3 ⊢; exact ok3.symm) hyx ok4 ok5 (no_star e₁) (no_star e₂)
    refine Assign_Tuple_swapped ?_ rfl hw
    refine wpAny_Tuple ?_
    have ea : backTo pe (starEach [den C e₁, den C e₂] env) = ([den C e₁, den C e₂]).map fun e => (false, eval e env) := args_eq C env pe (.cons e₁ (.cons e₂ .nil))
    rw [ea]
    refine Calls.spliced_cons (h1.use ok1 rm R I hk fun va s₁ ma H₁ hk T₁ ra R₁ => Calls.spliced_cons (h2.use ok2 rm R₁ T₁.inv hk fun vb s₂ mb H₂ hk T₂ rb R₂ => Calls.spliced_nil ⟨by rw [sizeLine_eq]; show 2 ≤ _; lia, ?_⟩))
    have T3 := Tr.push T₂.inv (tobj #[va, vb] 0) s₂.toks
    refine unpackItems_tuple (items := #[va, vb]) rm.hd ⟨_, Heap.get?_push_size _ rfl, rfl, _, rfl⟩ fun h' hx' => ?_
    have gr : Grew (s₂.heap.push (tobj #[va, vb] 0)) h' := fun a o e => hx' a o (Nat.ne_of_lt (Heap.lt_size e)) e
    have T4 : Tr G Z H₂ { s₂ with heap := s₂.heap.push (tobj #[va, vb] 0) } H₂ { s₂ with heap := h' } := Tr.grow T3.inv gr rfl rfl
    have T5 := T3.trans T₂.inv T4
    show wpAny _ A (do holding [va] (bindName env (C.nm j) vb); do holding [] (bindName env (C.nm i) va); pure ()) _ _ _
    refine wpAny_bind (wpAny_holding (wpAny_bindName (store_go (R₂.tr T₂.inv T5) T5.inv ⟨y, _, hy, .inl rfl⟩ (T5.vr T₂.inv rb) fun s₃ T₆ k₃ R₃ => ?_)))
    refine wpAny_bind (wpAny_holding (wpAny_bindName (store_go R₃ T₆.inv ⟨x, _, hx, .inl rfl⟩ (VR.keep k₃ (Sub.refl _ _) _ _ (T5.vr T₂.inv (T₂.vr T₁.inv ra))) fun s₄ T₇ _ R₄ => wpAny_pure ?_)))
    exact ⟨_, _, hk, ((((T₁.trans I T₂).trans I T5).w R).trans T₆).trans T₇, R₄⟩
theorem x_sst {a ix e : ME} (he : EvS G e) (ha : EvS G a) (hi : EvS G ix) : ExS G (.sst a ix e ps p) := fun ok rm R I hk => by
  rw [w5, Bool.and_eq_true, Bool.and_eq_true, Bool.and_eq_true] at ok
  obtain ⟨⟨⟨ok1, ok2⟩, ok3⟩, ok4⟩ := ok
  rw [cm] at hk
  refine wpAny_Assign_Subscript (he.use ok1 rm R I hk fun v s₁ m H₁ hk T₁ r R₁ => ha.use ok2 rm R₁ T₁.inv hk fun va s₂ ma H₂ hk T₂ ra R₂ => hi.use ok3 rm R₂ T₂.inv hk fun vi s₃ mi H₃ hk T₃ ri R₃ => ?_) (no_swap ok4)
  refine wpAny_mono (set_sound T₃.inv (T₃.vr T₂.inv ra) ri (T₃.vr T₂.inv (T₂.vr T₁.inv r)) hk) (fun _ s₄ h => ?_) fun _ _ x => x
  obtain ⟨H₄, hq, T₄⟩ := h
  exact ⟨_, _, hq, (((T₁.trans I T₂).trans I T₃).trans I T₄).w R, R₃.tr T₃.inv T₄⟩
theorem x_del {a ix : ME} (ha : EvS G a) (hi : EvS G ix) : ExS G (.del a ix ps p) := fun ok rm R I hk => by
  rw [wd, Bool.and_eq_true] at ok
  rw [cy] at hk
  refine wpAny_Delete (wpAny_deleteEach_cons (wpAny_delete_Subscript (ha.use ok.1 rm R I hk fun va s₂ ma H₂ hk T₂ ra R₂ => hi.use ok.2 rm R₂ T₂.inv hk fun vi s₃ mi H₃ hk T₃ ri R₃ => ?_)))
  refine wpAny_mono (del_sound T₃.inv (T₃.vr T₂.inv ra) ri hk) (fun _ s₄ h => wpAny_deleteEach_nil ?_) fun _ _ x => x
  obtain ⟨H₄, hq, T₄⟩ := h
  exact ⟨_, _, hq, ((T₂.trans I T₃).trans I T₄).w R, R₃.tr T₃.inv T₄⟩
theorem x_aug {i : Nat} {op : Operator} {e : ME} (he : EvS G e) : ExS G (.aug i pi op e p) := fun {d C env F Z l H s A E N R'} ok rm R I hk => by
  rw [w6] at ok
  rw [co] at hk
  split at hk
  · rename_i old eo
    refine wpAny_AugAssign_Name ?_
    refine load_slot_raw R eo fun v0 r0 => he.use ok rm R I hk fun v s₁ m H₁ hk T₁ r R₁ => ?_
    refine wpAny_mono (aug_sound T₁.inv (T₁.vr I r0) r hk) (fun v s₂ h => ?_) fun _ _ x => x
    obtain ⟨mr, H₂, ⟨⟨hset, hq⟩, rfl⟩, T₂, r₂⟩ := h
    refine store_go (R₁.tr T₁.inv T₂) T₂.inv hset r₂ fun s₃ T₃ _ R₃ => ?_
    exact ⟨_, _, hq, ((T₁.trans I T₂).w R).trans T₃, R₃⟩
  · exact hk.elim
theorem x_ifs {t : ME} {b o : MSs} (ht : EvT G t) (hb : ExsS G b) (ho : ExsS G o) : ExS G (.ifs t b o p) := fun ok rm R I hk => by
  rw [w7, Bool.and_eq_true, Bool.and_eq_true] at ok
  rw [cq] at hk
  refine wpAny_If (ht.use ok.1.1 rm R I hk fun c s₁ H₁ hk T₁ R₁ => ?_)
  cases c with
  | true => exact wpAny_mono (hb ok.1.2 rm R₁ T₁.inv hk) (fun f s₂ h => h.after (T₁.w R)) fun _ _ x => x
  | false => exact wpAny_mono (ho ok.2 rm R₁ T₁.inv hk) (fun f s₂ h => h.after (T₁.w R)) fun _ _ x => x
theorem x_whl {t : ME} {b : MSs} (ht : EvT G t) (hb : ExsS G b) : ExS G (.whl t b p) := fun {d C env F Z l H s A E N R'} ok rm R I hk => by
  rw [w8, Bool.and_eq_true] at ok
  rw [cu] at hk
  obtain ⟨Iv, n, h0, hstep⟩ := hk
  refine wpAny_While (codeAny_whileLoop (fun n s' => ∃ l' H', Iv n l' H' ∧ TrW G Z F.all H s H' s' ∧ FR G C env F Z l' H' s'.heap) (fun n s' hI => ?_) n ⟨l, H, h0, TrW.refl I, R⟩)
  obtain ⟨l', H', hI, T, R₁⟩ := hI
  refine ht.use ok.1 rm R₁ T.inv (hstep n l' H' hI) fun c s₂ H₂ hk T₂ R₂ => ?_
  cases c with
  | true =>
    refine wpAny_mono (hb ok.2 rm R₂ T₂.inv hk) (fun f s₃ h => ?_) fun _ _ x => x
    cases f with
    | next =>
      obtain ⟨l3, H3, ⟨m, hm, hI⟩, T3, R3⟩ := h
      exact ⟨m, hm, l3, H3, hI, (T.trans (T₂.w R₁)).trans T3, R3⟩
    | ret v => exact (show SP G C env F Z H s N R' (.ret v) s₃ from SP.after (T.trans (T₂.w R₁)) (show SP G C env F Z H₂ s₂ N R' (.ret v) s₃ from h))
    | brk => exact h.elim
    | cont => exact h.elim
  | false => exact wpAny_execs_nil (show SP G C env F Z H s N R' .next s₂ from ⟨_, _, hk, T.trans (T₂.w R₁), R₂⟩)
theorem x_ret {e : ME} (he : EvS G e) : ExS G (.ret e p) := fun ok rm R I hk => by
  rw [wb] at ok
  rw [cw] at hk
  refine wpAny_Return_some (he.use ok rm R I hk fun v s₁ m H₁ hk T₁ r R₁ => ?_)
  obtain ⟨H₂, hs, hq⟩ := hk
  have hnd : (keys H₂).Nodup := List.Nodup.sublist (List.Sublist.map _ hs) T₁.inv.nd
  have hk2 : ∀ a ∈ keys H₂, a ∈ keys H₁ := fun a m => (List.Sublist.map (fun x : Addr × List MV => x.1) hs).subset m
  have T₂ : Tr G _ H₁ s₁ H₂ s₁ := ⟨T₁.inv.drop (fun p hp => hs.subset hp) hnd, KeepE.refl _ _, fun b m => .inl (hk2 b m), rfl, rfl⟩
  exact ⟨_, _, hq, (T₁.trans I T₂).w R, T₂.vr T₁.inv r⟩
theorem x_ret0 : ExS G (.ret0 p) := fun ok rm R I hk => by
  rw [cx] at hk
  exact wpAny_Return_none ⟨.none, _, hk, TrW.refl I, by unfold VR; rfl⟩
theorem x_exq {e : ME} (he : EvS G e) : ExS G (.exq e p) := fun {d C env F Z l H s A E N R'} ok rm R I hk => by
  rw [we, Bool.and_eq_true] at ok
  rw [cz] at hk
  refine wpAny_Expr (he.use ok.1 rm R I hk fun v s₁ m H₁ hk T₁ r R₁ => ?_) (by unfold interactive; rw [R.kind]; rfl) (no_swap ok.2)
  obtain ⟨rfl, hq⟩ := hk
  rw [vr_none r]
  exact ⟨_, _, hq, T₁.w R, R₁⟩
theorem x_asr {e : ME} (he : EvT G e) : ExS G (.asr e p) := fun ok rm R I hk => by
  rw [wf] at ok
  rw [d8] at hk
  exact wpAny_Assert_holds (he.use ok rm R I hk fun c s₁ H₁ hk T₁ R₁ => ⟨hk.1, _, _, hk.2, T₁.w R, R₁⟩)
theorem x_rse {st : Stmt} : ExS G (.rse st) := fun ok rm R I hk => by rw [wi] at hk; exact hk.elim
theorem xs_nil : ExsS G .nil := fun ok rm R I hk => by
  rw [a9] at hk
  exact wpAny_execs_nil ⟨_, _, hk, TrW.refl I, R⟩
theorem xs_cons {st : MS} {r : MSs} (h1 : ExS G st) (h2 : ExsS G r) : ExsS G (.cons st r) := fun {d C env F Z l H s A E N R'} ok rm R I hk => by
  rw [wh, Bool.and_eq_true] at ok
  rw [a8] at hk
  refine wpAny_execs_cons (wpAny_mono (h1 ok.1 rm R I hk) (fun f s₁ h => ?_) fun _ _ x => x)
  cases f with
  | next =>
    obtain ⟨l', H', hk, T, R'⟩ := h
    exact wpAny_mono (h2 ok.2 rm R' T.inv hk) (fun f s₂ h => h.after T) fun _ _ x => x
  | ret v => exact h
  | brk => exact h.elim
  | cont => exact h.elim
end
end Mine
namespace Mine
variable {G : Stat}
section
variable {d : Nat} {C : Ctx} {env : Env} {F : FP} {Z Z' W : List Addr} {l : Loc} {H H' H₁ : MH} {s s' s₁ s₂ : Shared} {A : Around} {E : Value → Shared → Prop} {p pn pi pj pt ps pe : Pos} {h h' : Heap} {N : Loc → MH → Prop} {R' : MV → MH → Prop}
theorem for_end {W : List Addr} {I : Addr} (hn : s₁.heap.get? I = none) (J : Inv G Z H₁ s₁.heap) (gr : Grew s₁.heap s₂.heap) (hg : (s₂.gens, s₂.drawn) = (s₁.gens, s₁.drawn)) (ho : s₂.os = s₁.os) (hW : ∀ a ∈ W, ∃ o, s₁.heap.get? a = some o)
    {s₃ : Shared} (T : TrW G ([I] ++ Z) ([I] ++ W) H₁ s₂ H' s₃) : TrW G Z W H₁ s₁ H' s₃ := by
  refine ⟨T.inv.dropZ J.tp, fun a o q e => T.keep a o (fun q' => ?_) (gr a o e), fun a m => ?_, fun a m _ => T.wl a (List.mem_append_right _ m) (let ⟨o, e⟩ := hW a m; ⟨o, gr a o e⟩), T.gens.trans hg, T.os.trans ho, fun a o ha hc e => T.kp a o (fun q' => ?_) hc (gr a o e)⟩
  · rcases List.mem_append.mp q' with q' | q'
    · exact q (List.mem_append_left _ q')
    · rcases List.mem_append.mp q' with q' | q'
      · exact q (List.mem_append_right _ (List.mem_append_left _ q'))
      · rcases List.mem_append.mp q' with q' | q'
        · rw [List.mem_singleton.mp q', hn] at e; cases e
        · exact q (List.mem_append_right _ (List.mem_append_right _ q'))
  · rcases T.sub a m with q | q
    · exact .inl q
    · refine .inr ?_
      cases e : s₁.heap.get? a with
      | none => rfl
      | some o => have := gr a o e; rw [q] at this; cases this
  · rcases List.mem_append.mp q' with q' | q'
    · exact ha (List.mem_append_left _ q')
    · rcases List.mem_append.mp q' with q' | q'
      · rw [List.mem_singleton.mp q', hn] at e; cases e
      · exact ha (List.mem_append_right _ q')
theorem for_loop {i : Nat} {b : MSs} {Zj Wj : List Addr} {j : Addr} {xs : List MV} {fp : List Addr} {P : Nat → Value → Prop} {St : Nat → Heap → Prop} {R : Result → Shared → Prop} (hb : ExsS G b) (okb : okSs C b = true) (rm : Room A d)
    (wn : ∀ {H' : MH} {hh : Heap} {l' : Loc}, Inv G Zj H' hh → FR G C env F Zj l' H' hh → ∀ a ∈ Wj, a ∉ keys H' ++ G.TP) (jW : j ∈ Wj) (fW : ∀ a ∈ F.all, a ∈ Wj) (hjF : j ∉ F.all) (hjf : j ∉ F.fc)
    (K0 : Wk G A Zj H xs j fp P St 0 s.heap) (J0 : Inv G Zj H s.heap) (R0 : FR G C env F Zj l H s.heap) (hgo : forGo (fun x l' H' N' => setOk C l' i ∧ exs G d b C (l'.set i (some x)) H' N' R') N xs l H)
    (hret : ∀ v m H' s', R' m H' → TrW G Zj Wj H s H' s' → VR G (keys H' ++ Zj) s'.heap m v → R (.ok (.ret v)) s')
    (hend : ∀ l' H' s', N l' H' → TrW G Zj Wj H s H' s' → FR G C env F Zj l' H' s'.heap → ∀ h9 tk, (∀ b o, b ≠ j → s'.heap.get? b = some o → h9.get? b = some o) → R (.ok .next) { s' with heap := h9, toks := tk }) :
    codeAny (model G.prog G.w) A (.forLoop (.Name (C.nm i) pi) (.ref j) (denSs C b) [] env) R s := by
  have oJ : ∀ b ∈ [j], b ∈ Wj := fun b m => List.mem_singleton.mp m ▸ jW
  refine codeAny_forLoop (fun n s' => ∀ T : Prop, (∀ q l' H', q + n = xs.length → Wk G A Zj H' xs j fp P St q s'.heap → TrW G Zj Wj H s H' s' → FR G C env F Zj l' H' s'.heap → forGo (fun x l' H' N' => setOk C l' i ∧ exs G d b C (l'.set i (some x)) H' N' R') N (xs.drop q) l' H' → T) → T)
    (fun n s' h => h _ fun q l' H' hq Kq Tq Rq hgo => ?_) xs.length fun T k => k 0 l H (Nat.zero_add _) K0 (TrW.refl J0) R0 hgo
  by_cases hlt : q < xs.length
  · refine wk_next Kq Tq.inv hlt fun v m s₅ em rv t5 T5 K5 => ?_
    have ed : xs.drop q = m :: xs.drop (q + 1) := by
      obtain ⟨hh, e⟩ := List.getElem?_eq_some_iff.mp em
      rw [List.drop_eq_getElem_cons hlt, e]
    rw [ed, forGo] at hgo
    have R5 := Rq.tch t5 (fun a m => List.mem_singleton.mp m ▸ hjF) (fun a m => List.mem_singleton.mp m ▸ hjf)
    refine wpAny_assign_Name (store_sound R5 T5.inv hgo.1 rv fun s₆ t6 T6 R6 _ => ?_)
    have T6' := (Tq.trans (T5.mono oJ fun a ha _ => wn Tq.inv Rq a ha)).trans (T6.mono fW fun a ha _ => wn T5.inv R5 a ha)
    refine wpAny_mono (hb okb rm R6 T6.inv hgo.2) (fun f s₇ h => ?_) fun _ _ x => x
    cases f with
    | next =>
      obtain ⟨l7, H7, hgo, T7, R7⟩ := h
      exact ⟨xs.length - (q + 1), by lia, fun T k => k (q + 1) l7 H7 (by lia) ((K5.tch t6 hjF).trw T6.inv T7 hjF) (T6'.trans (T7.mono fW fun a ha _ => wn T6.inv R6 a ha)) R7 hgo⟩
    | ret v =>
      obtain ⟨mr, H7, hr, T7, rr⟩ := h
      exact hret v mr H7 s₇ hr (T6'.trans (T7.mono fW fun a ha _ => wn T6.inv R6 a ha)) rr
    | brk => exact h.elim
    | cont => exact h.elim
  · have hje : q = xs.length := by lia
    subst hje
    rw [List.drop_length, forGo] at hgo
    exact wk_done Kq fun h9 tk hk9 => wpAny_execs_nil (hend l' H' s' hgo Tq Rq h9 tk hk9)
theorem x_for {i : Nat} {it : MIt} {b : MSs} (hi : EvI G it) (hb : ExsS G b) : ExS G (.for_ i pi it b p) := fun {d C env F Z l H s A E N R'} ok rm R I hk => by
  rw [w9, Bool.and_eq_true] at ok
  rw [av] at hk
  refine wpAny_For (wpAny_mono (hi ok.1 rm R I hk) (fun xv s₁ h => wpAny_mono h (fun itv s₂ h => ?_) fun _ _ x => x) fun _ _ x => x) (fun x => no_setI _ _ _ _)
  obtain ⟨xs, H₁, s₁', hgo, T, j, fp, P, St, rfl, hn, gr, hg, ho, K⟩ := h
  have R₁ := R.tr I T
  have J₁ := T.inv
  have hIB : G.B.get? j = none := by
    cases e : G.B.get? j with
    | none => rfl
    | some o => have := J₁.keep j o e; rw [hn] at this; cases this
  have hIT : ∀ t ∈ G.TP, t ≠ j := fun t ht q => some_none (J₁.lt t (J₁.tp t ht)) (q ▸ hn)
  have hjF : j ∉ F.all := fun m => some_none (R₁.lt j m) hn
  have hjf : j ∉ F.fc := fun m => some_none (R₁.frl j m) hn
  have hjZ : j ∉ Z := fun m => some_none (J₁.lt j m) hn
  refine for_loop (Zj := [j] ++ Z) (Wj := [j] ++ F.all) hb ok.2 rm (fun Jx Rx a m q => ?_) (.head _) (fun a m => .tail _ m) hjF hjf (K.wk hIB hIT) K.inv (R₁.addZ gr fun a m => by rw [List.mem_singleton.mp m]; exact hn) hgo (fun v m H' s' hr T' rr => ?_) fun l' H' s' hgo Tq Rq h9 tk hk9 => ?_
  · rcases List.mem_append.mp m with m | m
    · rw [List.mem_singleton.mp m] at q
      exact (List.mem_append.mp q).elim (fun q => Jx.tpk _ q (.head _)) fun q => hIT j q rfl
    · exact Rx.own a m q
  · exact (show SP G C env F Z H s N R' (.ret v) s' from ⟨m, H', hr, (T.w R).trans (for_end hn J₁ gr hg ho R₁.lt T'), rr.sub fun a m => mem_z m⟩)
  · have hs9 : ∀ a o, a ∉ [j] → s'.heap.get? a = some o → h9.get? a = some o := fun a o q e => hk9 a o (fun e' => q (by rw [e']; exact .head _)) e
    have J9 := Tq.inv.tchN hs9 (fun a m => by rw [List.mem_singleton.mp m]; exact ⟨fun q => hIT j q rfl, fun q => Tq.inv.tpk _ q (.head _), hIB⟩) (fun a m q => hjZ (List.mem_singleton.mp q ▸ m))
    have R9 := Rq.tchN hs9 (fun a m q => hjF (List.mem_singleton.mp q ▸ m)) (fun a m q => hjf (List.mem_singleton.mp q ▸ m))
    have U := for_end hn J₁ gr hg ho R₁.lt Tq
    have go : ∀ {a o}, s₁'.heap.get? a = some o → s'.heap.get? a = some o → h9.get? a = some o := fun {a o} e => hs9 a o fun q' => by rw [List.mem_singleton.mp q', hn] at e; cases e
    exact (show SP G C env F Z H s N R' .next { s' with heap := h9, toks := tk } from ⟨l', H', hgo, (T.w R).trans ⟨J9, fun a o q e => go e (U.keep a o q e), U.sub, fun a m _ => R9.lt a m, U.gens, U.os, fun a o ha hc e => go e (U.kp a o ha hc e)⟩, R9⟩)
end
end Mine
namespace Mine
variable {G : Stat}
section
variable {d : Nat} {C : Ctx} {env : Env} {F : FP} {Z Z' W : List Addr} {l : Loc} {H H' H₁ : MH} {s s' s₁ s₂ : Shared} {A : Around} {E : Value → Shared → Prop} {p pn pi pj pt ps pe : Pos} {h h' : Heap} {N : Loc → MH → Prop} {R' : MV → MH → Prop}
theorem ann_nil : ∀ (as : List Arg) (env : Env), (∀ a ∈ as, a.annotation = none) → annotationsOf as env = []
  | [], _, _ => rfl
  | ⟨n, none, q⟩ :: r, env, h => by
    show annotationsOf r env = []
    exact ann_nil r env fun a m => h a (.tail _ m)
  | ⟨n, some e, q⟩ :: r, env, h => by have := h _ (.head _); cases this
theorem capV_set {i : Nat} {x : Option MV} : ∀ (cap : List Nat), i ∉ cap → capV (l.set i x) cap = capV l cap
  | [], _ => rfl
  | j :: r, h => by
    have hj : i ≠ j := fun e => h (e ▸ .head _)
    rw [capV, capV, List.getElem?_set_ne hj, capV_set r fun m => h (.tail _ m)]
theorem FR.up {i : Nat} {m m' : MV} {rv : Value} (hm : ∀ v, VR G (keys H ++ Z) h m v → v = rv) (hm' : VR G (keys H ++ Z) h m' rv) (hil : i < l.length) (R : FR G C env F Z (l.set i (some m)) H h) : FR G C env F Z (l.set i (some m')) H h := by
  have go : ∀ {j : Nat} {v : MV} {w : Value → Prop}, (∀ v, (l.set i (some m))[j]? = some (some v) → ∃ rv, w rv ∧ VR G (keys H ++ Z) h v rv) → (l.set i (some m'))[j]? = some (some v) → ∃ rv, w rv ∧ VR G (keys H ++ Z) h v rv := by
    intro j v w hv e
    rw [set_at hil] at e
    by_cases q : j = i
    · rw [if_pos q] at e; cases e
      obtain ⟨rv', e1, e2⟩ := hv m (by rw [set_at hil, if_pos q])
      rw [hm _ e2] at e1
      exact ⟨rv, e1, hm'⟩
    · rw [if_neg q] at e
      exact hv v (by rw [set_at hil, if_neg q]; exact e)
  refine ⟨R.kind, R.locals, R.globals, R.builtins, R.code, R.qual, by have := R.len; rw [List.length_set] at this ⊢; exact this, R.nd, ?_, fun j x k e hk => ?_, fun j x e => ?_, R.glob, R.dbg, R.cls, R.inj, R.own, R.apart, R.z, R.zc, R.old, R.lt, R.fro, R.frx, R.fok, R.frl⟩
  · obtain ⟨m₀, hn, hv⟩ := R.ns
    exact ⟨m₀, hn, fun j x e => ⟨(hv j x e).1, fun v ev => go (w := fun rv => m₀ x = some rv) (hv j x e).2 ev⟩⟩
  · obtain ⟨kk, c, ec, h1, h2, orv, ic, hv, hn⟩ := R.cell j x k e hk
    refine ⟨kk, c, ec, h1, h2, orv, ic, fun v ev => go (w := fun rv => orv = some rv) hv ev, fun q ev => ?_⟩
    rw [set_at hil] at ev
    by_cases q' : j = i
    · rw [if_pos q'] at ev; cases ev
    · rw [if_neg q'] at ev
      exact hn q (by rw [set_at hil, if_neg q']; exact ev)
  · obtain ⟨kk, hv⟩ := R.free j x e
    refine ⟨kk, fun v ev => ?_⟩
    obtain ⟨rv', ⟨c, ec, hc, h1, h2, h3, ic⟩, r⟩ := go (j := j) (v := v) (w := fun rv => ∃ c, env.cells.lookup x = some c ∧ c ∉ keys H ++ G.TP ∧ c ≠ F.L ∧ c ∉ F.nc ∧ c ∉ F.cc ∧ h.IsCell c (some rv))
      (fun v ev => let ⟨c, rv, ec, hc, h1, h2, h3, ic, r⟩ := hv v ev; ⟨rv, ⟨c, ec, hc, h1, h2, h3, ic⟩, r⟩) ev
    exact ⟨c, rv', ec, hc, h1, h2, h3, ic, r⟩
theorem x_dfn (hS : StatOk G) {k i : Nat} {cap : List Nat} {ar : Arguments} {b : List Stmt} {sc : Scope} : ExS G (.dfn k i cap ar b sc p) := fun {d C env F Z l H s A E N R'} _ rm R I hk => by
  rw [aw] at hk
  obtain ⟨ok, ⟨⟨x, hx⟩, hln, hic⟩, hk⟩ := hk
  obtain ⟨vs, ev, hk⟩ := lkW_of hk
  have hil : i < l.length := by rw [R.len]; exact (List.getElem?_eq_some_iff.mp hx).1
  obtain ⟨ci, eci, hcc, hciX, orv, ici, _, horv⟩ := cc_cell R hx
  have hfree : ∀ n, (n, NameKind.free) ∈ sc.names → ∃ a, env.cells.lookup n = some a := fun n hn => by
    rcases ok.all n (free_names.mpr hn) with q | q
    · exact cap_cell R ok.kind q
    · cases q; exact ⟨ci, eci⟩
  have hcl := closureFor_eq sc env hfree
  have hann : annTrees ar none env = [] := by
    obtain ⟨_, _, d3, d4, d5, d6, d7⟩ := ok.dfl
    obtain ⟨po, as, va, ko, kd, kwa, df⟩ := ar
    simp only at d3 d4 d5 d6 d7
    subst d3 d4 d5 d6
    unfold annTrees
    simp only [List.append_nil, Option.toList_none]
    rw [ann_nil as env d7]; rfl
  rw [tu]
  refine nestDef_K ok.dfl.1 ok.dfl.2.1 hann ?_
  have hq : qualnameIn env (C.nm i) (C.nm i) = C.qual ++ C.nm i := by
    unfold qualnameIn
    obtain ⟨kk, _⟩ := R.cell i x _ hx (.inr rfl)
    rw [slot_name hx, kk, R.qual]; rfl
  rw [hq]
  refine wpAny_mono (mk_sound hS R I ok hcl) (fun v s₁ hmk => ?_) fun _ _ x => x
  obtain ⟨f, o, fd, c, rfl, hn, T, g, e, fok, ecl, ec, hc, rc⟩ := hmk
  have R₁ := R.tr I T
  refine store_sound R₁ T.inv (i := i) (m := .ref f) ⟨x, .cc, hx, .inr (.inr ⟨rfl, hln⟩)⟩ (by unfold VR; rfl) fun s₂ t T₂ R₂ _ => ?_
  have hfF : f ∉ F.all := fun m => some_none (R.lt f m) hn
  have g2 : s₂.heap.get? f = some o := (t _ _ g).elim id fun ⟨q, _⟩ => absurd q hfF
  obtain ⟨ci', eci', _, hX', orv', ici', hv', _⟩ := cc_cell R₂ hx
  rw [eci] at eci'; cases eci'
  obtain ⟨rv, rfl, hrv⟩ := hv' (.ref f) (by rw [set_at hil, if_pos rfl])
  have := vr_ref hrv
  subst this
  have hclk : ∀ n, (n, NameKind.free) ∈ sc.names → (closL env.cells sc.names []).lookup n = env.cells.lookup n := fun n hn => closL_lookup _ _ _ _ hfree (.inl hn)
  have vr : VR G (keys H ++ Z) s₂.heap (.clo k vs) (.ref f) := by
    refine vr_clo_of (I.off hn) g2 e fok ec hc (codeRec_keep t.keep hc rc) (fun y hy => ?_) ?_
    · rw [ok.is] at hy
      cases hy
      refine ⟨ci, ?_, hX', ici'⟩
      rw [ecl, hclk _ (free_names.mp (ok.only _ (.inr rfl)))]
      exact eci
    · rw [ok.is, ecl]
      exact vf_of R₂ cap vs (by rw [capV_set cap hic]; exact ev) ok.kind fun j hj => hclk _ (free_names.mp (ok.only _ (.inl (List.mem_map_of_mem hj))))
  exact ⟨_, _, hk, (T.w R).trans T₂, R₂.up (fun v r => vr_ref r) vr hil⟩
end
end Mine
namespace Mine
variable {G : Stat}
section
variable {d : Nat} {C : Ctx} {env : Env} {F : FP} {Z Z' W : List Addr} {l : Loc} {H H' H₁ : MH} {s s' s₁ s₂ : Shared} {A : Around} {E : Value → Shared → Prop} {p pn pi pj pt ps pe : Pos} {h h' : Heap} {N : Loc → MH → Prop} {R' : MV → MH → Prop}
inductive Pr (G : Stat) (X : List Addr) (h : Heap) : List (Int × Value) → List (Int × MV) → Prop where
  | nil : Pr G X h [] []
  | cons (k : Int) (v : Value) (m : MV) (ps : List (Int × Value)) (qs : List (Int × MV)) : VR G X h m v → Pr G X h ps qs → Pr G X h ((k, v) :: ps) ((k, m) :: qs)
theorem Pr.zip {X : List Addr} : ∀ {xs : List MV} {vs : List Value} {kz : List Int}, VRs G X h xs vs → Pr G X h (kz.zip vs) (kz.zip xs)
  | _, _, [], _ => .nil
  | [], _, k :: kz, r => by rw [vrs_nil r]; exact .nil
  | x :: xs, _, k :: kz, r => by
    obtain ⟨v, q, rfl, r1, r2⟩ := vrs_cons r
    exact .cons k v x _ _ r1 (Pr.zip r2)
theorem Pr.perm {X : List Addr} {ps ps' : List (Int × Value)} (hp : ps'.Perm ps) : ∀ {qs : List (Int × MV)}, Pr G X h ps qs → ∃ qs', qs'.Perm qs ∧ Pr G X h ps' qs' := by
  induction hp with
  | nil => intro qs r; exact ⟨qs, .refl _, r⟩
  | cons x _ ih =>
    intro qs r
    cases r with
    | cons k v m ps qs r1 r2 =>
      obtain ⟨qs', h1, h2⟩ := ih r2
      exact ⟨(k, m) :: qs', h1.cons _, .cons k v m _ _ r1 h2⟩
  | swap x y l =>
    intro qs r
    cases r with
    | cons k v m ps qs r1 r2 =>
      cases r2 with
      | cons k2 v2 m2 ps2 qs2 r3 r4 => exact ⟨_, .swap _ _ _, .cons _ _ _ _ _ r3 (.cons _ _ _ _ _ r1 r4)⟩
  | trans _ _ ih1 ih2 =>
    intro qs r
    obtain ⟨q1, h1, h2⟩ := ih2 r
    obtain ⟨q2, h3, h4⟩ := ih1 h2
    exact ⟨q2, h3.trans h1, h4⟩
theorem Pr.snd {X : List Addr} {ps : List (Int × Value)} {qs : List (Int × MV)} (r : Pr G X h ps qs) : VRs G X h (qs.map (·.2)) (ps.map (·.2)) := by
  induction r with
  | nil => exact vrs_nil'
  | cons k v m ps qs r1 _ ih => exact vrs_cons' r1 ih
theorem Pr.fst {X : List Addr} {ps : List (Int × Value)} {qs : List (Int × MV)} (r : Pr G X h ps qs) (hs : ps.Pairwise (fun p q => p.1 ≤ q.1)) : qs.Pairwise (fun p q => p.1 ≤ q.1) := by
  have e : ps.map (·.1) = qs.map (·.1) := by
    induction r with
    | nil => rfl
    | cons k v m ps qs _ _ ih => rw [List.map_cons, List.map_cons, ih (List.pairwise_cons.mp hs).2]
  have h1 : (ps.map (·.1)).Pairwise (· ≤ ·) := List.pairwise_map.mpr hs
  rw [e] at h1
  exact List.pairwise_map.mp h1
noncomputable def allBut (L : Addr) (h : Heap) : List (Addr × Obj) := (List.range h.objs.size).filterMap fun a => if a = L then none else (h.get? a).map fun o => (a, o)
theorem mem_allBut {L : Addr} {a : Addr} {o : Obj} : (a, o) ∈ allBut L h ↔ a ≠ L ∧ h.get? a = some o := by
  unfold allBut
  rw [List.mem_filterMap]
  constructor
  · rintro ⟨b, hb, e⟩
    by_cases q : b = L
    · rw [if_pos q] at e; cases e
    · rw [if_neg q] at e
      obtain ⟨o', e1, e2⟩ := Option.map_eq_some_iff.mp e
      cases e2
      exact ⟨q, e1⟩
  · rintro ⟨q, e⟩
    exact ⟨a, List.mem_range.mpr (Heap.lt_size e), by rw [if_neg q, e]; rfl⟩
theorem x_rsrt (hS : StatOk G) {e : ME} {k : Nat} {cap : List Nat} {ar : Arguments} {b : Expr} {sc : Scope} {pl pk pc : Pos} (he : EvS G e) : ExS G (.rsrt e k cap ar b sc pl pk pn pc p) := fun {d C env F Z l H s A E N R'} ok rm R I hk => by
  rw [wg, Bool.and_eq_true] at ok
  rw [d9] at hk
  rw [tv]
  refine wpAny_Return_some ?_
  rw [arm_eval_Call_Name']
  refine wpAny_bind (load_built hS I R ok.2 hS.tsort ?_)
  have e0 : backTo pc (starEach [den C e] env) = [(false, eval (den C e) env)] := args_eq C env pc (.cons e .nil)
  rw [e0]
  refine callWith_of (P := fun _ => True) rfl (fun h _ => ⟨.machine, .inr (.inl rfl), Looks.now⟩) ?_
  refine evalArgs_kw rfl (Calls.spliced_cons (he.use ok.1 rm R I hk fun v s₁ m H₁ hk T r R₁ => Calls.spliced_nil ?_))
  obtain ⟨xs, rfl, hk'⟩ := lW_of hk
  obtain ⟨vs, ev, hk''⟩ := lkW_of hk'
  obtain ⟨⟨⟨h2d, h64⟩, cok⟩, kz, ⟨hkl, hkey⟩, hres⟩ := hk''
  have lam := s_lm (G := G) (p := pl) hS (k := k) (cap := cap) (ar := ar) (b := b) (sc := sc) (d := d) (Q := fun m H' => m = .clo k vs ∧ H' = H₁) (E := E) rfl rm R₁ T.inv (by rw [ah, ev]; exact ⟨cok, rfl, rfl⟩)
  refine wpAny_evalAll_cons (wpAny_bind (wpAny_mono lam (fun lv s₂ h2 => wpAny_bind (wpAny_standAt (wpAny_pure (wpAny_evalAll_nil ?_)))) fun _ _ x => x))
  obtain ⟨m2, H2, ⟨hm2, hH2⟩, T₂, rl⟩ := h2
  rw [hH2] at T₂ rl
  rw [hm2] at rl
  obtain ⟨lf, hlf⟩ : ∃ q, lv = .ref q := by
    have rl' := rl
    unfold VR at rl'
    obtain ⟨a, _, _, _, e, _⟩ := rl'
    exact ⟨a, e⟩
  subst hlf
  refine ⟨trivial, ?_⟩
  have T12 := T.trans I T₂
  have R₂ := R₁.tr T.inv T₂
  have I₂ := T₂.inv
  obtain ⟨a, n, ws, rfl, hx, g, q⟩ := vr_list (T₂.vr T.inv r)
  have lq := vrs_len q
  obtain ⟨m₀, hns, _⟩ := R₂.ns
  have hLz : F.L ∈ Z := R₂.z _ (.head _)
  have eg : ∀ b : Addr, ({} : Heap).get? b = none := fun b => Heap.get?_none_of_le (Nat.zero_le _)
  have F0 : Fr ({} : Heap) F.L s₂.heap m₀ := ⟨hns, fun b o e => (by rw [eg] at e; cases e), Nat.zero_le _⟩
  have N0 : News ({} : Heap) F.L s₂.heap (allBut F.L s₂.heap) := fun p hp => ⟨(mem_allBut.mp hp).2, (mem_allBut.mp hp).1, eg _⟩
  have tch : ∀ (hh : Heap) (more : List (Addr × Obj)), Fr ({} : Heap) F.L hh m₀ → News ({} : Heap) F.L hh more → (∀ p ∈ allBut F.L s₂.heap, p ∈ more) → Tch Z [F.L] s₂.heap hh := fun hh more Fh Nh hm b o e => by
    by_cases qb : b = F.L
    · subst qb
      obtain ⟨o', _, _, e', _⟩ := Fh.ns
      exact .inr ⟨.head _, .inl hLz, o', e'⟩
    · exact .inl (Nh _ (hm _ (mem_allBut.mpr ⟨qb, e⟩))).1
  have wL : WOk G H₁ [F.L] := fun a m => by rw [List.mem_singleton.mp m]; exact R₂.wok _ (.head _)
  show wpAny _ _ (call (Value.builtin "sorted") [Value.ref a] [(PySem.Str.ofString "key", .ref lf)]) _ _ _
  refine ksk_sorted (vs := ws.toList) (b := false) (f := .ref lf) F0 N0 ⟨_, by simpa using g, rfl, _, rfl⟩ (by rw [lq]; exact hkl) (by rw [lq]; exact h64) ?a1 ?a2 ?a3 (fun i v kq ei ek hh tk own Fh Nh => ?_) (fun D h' tk out c Fh Nh hlt hout => ?_)
  case a1 => with_reducible exact ksk_s1 _ _
  case a2 => (intro x; with_reducible exact ksk_l1 _ _)
  case a3 => (intro x; with_reducible exact ksk_t1 _ _)
  · have t := tch hh _ Fh Nh fun p hp => List.mem_append_left _ hp
    have hi : i < xs.length := by rw [← hkl]; exact (List.getElem?_eq_some_iff.mp ek).1
    obtain ⟨v', e1, e2⟩ := vrs_get q (List.getElem?_eq_getElem hi)
    rw [ei] at e1; cases e1
    have J := I₂.tch t wL
    have cp : CallsP G k vs xs[i] kq := hkey i _ kq (List.getElem?_eq_getElem hi) ek
    have rl' := VR.keep t.keep (Sub.refl _ _) _ _ rl
    have rv' := VR.keep t.keep (Sub.refl _ _) _ _ e2
    have hdp : Room A.in1.in1 1 := ⟨rm.hd, by have := rm.depth; show A.depth + 1 ≤ 900; lia, by have := rm.units; show A.units + 1 + 1 + 4 * 1 ≤ 9000; lia⟩
    have W := cp A.in1.in1 { s₂ with heap := hh, toks := tk } (keys H₁ ++ Z) (.ref lf) v (fun _ _ => False) hdp J.keep rl' rv'
    refine wpAny_mono W (fun r s' hr => ?_) fun _ _ x => x
    obtain ⟨t', h', tk', rfl, rfl, gr⟩ := hr
    exact ⟨h', tk', t', rfl, rfl, ⟨Fh.ns.keeps gr, fun b o e => (by rw [eg] at e; cases e), Nat.zero_le _⟩, fun p hp => ⟨gr _ _ (Nh p hp).1, (Nh p hp).2⟩⟩
  · have t := tch h' _ Fh Nh fun p hp => .tail _ hp
    have T3 := TrW.tch I₂ t wL tk
    have T3' : TrW G Z F.all H₁ s₂ H₁ { s₂ with heap := h', toks := tk } := T3.mono (fun b m => by rw [List.mem_singleton.mp m]; exact .head _) fun b m _ => R₂.own b m
    obtain ⟨pz, hp, rfl', hs⟩ := hout
    have P0 : Pr G (keys H₁ ++ Z) s₂.heap (kz.zip ws.toList) (kz.zip xs) := Pr.zip q
    obtain ⟨qs, hq1, hq2⟩ := P0.perm hp
    have gD := (Nh _ (.head _)).1
    have hDX : D ∉ keys H₁ ++ Z := fun m => by
      by_cases qd : D = F.L
      · exact (Nh _ (.head _)).2.1 qd
      · obtain ⟨o, e⟩ := I₂.x_at m
        exact Nat.lt_irrefl _ (hlt _ (mem_allBut.mpr ⟨qd, e⟩))
    refine ⟨.list (qs.map (·.2)), H₁, hres qs hq1 (hq2.fst (by simpa using hs)), ((T12.w R).trans T3'), ?_⟩
    unfold VR
    refine ⟨D, c, out, rfl, hDX, gD, ?_⟩
    rw [rfl']
    exact VRs.keep t.keep (Sub.refl _ _) _ _ hq2.snd
end
theorem x_asgE (hS : StatOk G) {i : Nat} {e : ME} {pi p : Pos} : ExS G (.asg i pi e p) := by
  cases e with
  | comp c m elt pt it ifs pc => exact x_asgc (soundI hS it).1 (soundE hS elt).1 (soundEs hS ifs).2.2.1
  | cn | cb | ci | cs | v | gc | bin | rep | un | bo | ite | cmp | ls | tp | ix | slL | slU | slB | cg | cgk | cv | bi | lst | srt | mt | lm | fz => exact x_asg (soundE hS _).1 rfl
variable (hS : StatOk G)
include hS
mutual
theorem soundS : ∀ st : MS, ExS G st
  | .asg i pi e p => x_asgE hS
  | .asg2 i pi j pj e p => x_asg2 (soundE hS e).1
  | .unp i pi j pj e pt p => x_unp (soundE hS e).1
  | .swp i pi j pj e₁ e₂ pt pe p => x_swp (soundE hS e₁).1 (soundE hS e₂).1
  | .sst a ix e ps p => x_sst (soundE hS e).1 (soundE hS a).1 (soundE hS ix).1
  | .aug i pi op e p => x_aug (soundE hS e).1
  | .ifs t b o p => x_ifs (soundE hS t).2 (soundSs b) (soundSs o)
  | .whl t b p => x_whl (soundE hS t).2 (soundSs b)
  | .for_ i pi it b p => x_for (soundI hS it).1 (soundSs b)
  | .ret e p => x_ret (soundE hS e).1
  | .ret0 p => x_ret0
  | .del a ix ps p => x_del (soundE hS a).1 (soundE hS ix).1
  | .exq e p => x_exq (soundE hS e).1
  | .dfn k i cap ar b sc p => x_dfn hS
  | .asr t p => x_asr (soundE hS t).2
  | .rse s => x_rse
  | .rsrt e k cap ar b sc pl pk pn pc p => x_rsrt hS (soundE hS e).1
theorem soundSs : ∀ st : MSs, ExsS G st
  | .nil => xs_nil
  | .cons s r => xs_cons (soundS s) (soundSs r)
end
end Mine
namespace Mine
variable {G : Stat}
noncomputable def ctxOk (C : Ctx) (sc : Scope) : Bool :=
  C.slots.all (fun p => sc.names.lookup p.1 == some p.2.nk && !(p.1 == ("__debug__" : Str)) && !(p.1 == ("__classdict__" : Str))) &&
  decide ((C.slots.map (·.1)).Nodup) && C.globs.all (fun x => sc.names.lookup x == some .globalImplicit && !(x == ("__debug__" : Str))) && sc.kind == .function && !sc.isCoroutine && !sc.isGenerator
structure CtxOk (C : Ctx) (sc : Scope) : Prop where
  slot : ∀ (i : Nat) (x : Str) (k : SK), C.slots[i]? = some (x, k) → sc.names.lookup x = some k.nk
  dbg : ∀ x ∈ C.slots.map (·.1) ++ C.globs, (x == ("__debug__" : Str)) = false
  cls : ∀ x ∈ C.slots.map (·.1), (x == ("__classdict__" : Str)) = false
  nd : (C.slots.map (·.1)).Nodup
  glob : ∀ x ∈ C.globs, sc.names.lookup x = some .globalImplicit
  kind : sc.kind = .function
  nco : sc.isCoroutine = false
  ngen : sc.isGenerator = false
theorem ctxOk_of {C : Ctx} {sc : Scope} (h : ctxOk C sc = true) : CtxOk C sc := by
  unfold ctxOk at h
  simp only [Bool.and_eq_true, Bool.not_eq_true'] at h
  obtain ⟨⟨⟨⟨⟨h1, h2⟩, h3⟩, h4⟩, h5⟩, h6⟩ := h
  have h1' := List.all_eq_true.mp h1
  have h3' := List.all_eq_true.mp h3
  refine ⟨fun i x k e => ?_, fun x hx => ?_, fun x hx => ?_, of_decide_eq_true h2, fun x hx => ?_, by simpa using h4, h5, h6⟩
  · have := h1' _ (List.mem_of_getElem? e)
    simp only [Bool.and_eq_true] at this
    simpa using this.1.1
  · rcases List.mem_append.mp hx with hx | hx
    · obtain ⟨p, hp, rfl⟩ := List.mem_map.mp hx
      have := h1' p hp
      simp only [Bool.and_eq_true, Bool.not_eq_true'] at this
      exact this.1.2
    · have := h3' x hx
      simp only [Bool.and_eq_true, Bool.not_eq_true'] at this
      exact this.2
  · obtain ⟨p, hp, rfl⟩ := List.mem_map.mp hx
    have := h1' p hp
    simp only [Bool.and_eq_true, Bool.not_eq_true'] at this
    exact this.2
  · have := h3' x hx
    simp only [Bool.and_eq_true] at this
    simpa using this.1
theorem cells_some (x : Str) : ∀ (names : List (Str × NameKind)) (n : Nat) (acc : List (Str × Addr)), ((x, NameKind.cell) ∈ names ∨ ∃ c, acc.lookup x = some c) → ∃ c, (cellsFrom n names acc).lookup x = some c
  | [], n, acc, h => by
    rcases h with h | h
    · cases h
    · exact h
  | (y, k) :: r, n, acc, h => by
    unfold cellsFrom
    have up : (∃ c, acc.lookup x = some c) → ∃ c, ((y, n) :: acc : List (Str × Addr)).lookup x = some c := fun ⟨c, e⟩ => by
      rw [List.lookup_cons]
      cases x == y with
      | true => exact ⟨_, rfl⟩
      | false => exact ⟨c, e⟩
    split
    · refine cells_some x r _ _ ?_
      rcases h with h | h
      · rcases List.mem_cons.mp h with e | h
        · cases e
          refine .inr ⟨n, ?_⟩
          rw [List.lookup_cons, beq_self_eq_true]
        · exact .inl h
      · exact .inr (up h)
    · rename_i hk
      refine cells_some x r _ _ ?_
      rcases h with h | h
      · rcases List.mem_cons.mp h with e | h
        · cases e; exact absurd (show (NameKind.cell == NameKind.cell) = true from rfl) hk
        · exact .inl h
      · exact .inr h
theorem bind_lookup {X : List Addr} {h : Heap} : ∀ {bm : List (Str × MV)} {binds : List (Str × Value)} {x : Str}, KVs G X h bm binds →
    (∀ m, bm.lookup x = some m → ∃ v, binds.lookup x = some v ∧ VR G X h m v) ∧ (bm.lookup x = none → binds.lookup x = none)
  | [], _, x, r => by
    have : _ = ([] : List (Str × Value)) := r
    subst this
    exact ⟨fun m e => (by cases e), fun _ => rfl⟩
  | (y, m) :: bm, _, x, r => by
    obtain ⟨v, q, rfl, r1, r2⟩ := r
    have ih := bind_lookup (x := x) r2
    refine ⟨fun m' e => ?_, fun e => ?_⟩
    · rw [List.lookup_cons] at e ⊢
      cases hb : x == y with
      | true => rw [hb] at e; cases e; exact ⟨v, rfl, r1⟩
      | false => rw [hb] at e; exact ih.1 m' e
    · rw [List.lookup_cons] at e ⊢
      cases hb : x == y with
      | true => rw [hb] at e; cases e
      | false => rw [hb] at e; exact ih.2 e
theorem kvs_names {X : List Addr} {h : Heap} : ∀ {bm : List (Str × MV)} {binds : List (Str × Value)}, KVs G X h bm binds → binds.map (·.1) = bm.map (·.1)
  | [], _, r => by have : _ = ([] : List (Str × Value)) := r; subst this; rfl
  | (y, m) :: bm, _, r => by obtain ⟨v, q, rfl, r1, r2⟩ := r; rw [List.map_cons, List.map_cons, kvs_names r2]
theorem KVs.keep {X X' : List Addr} {h h' : Heap} (k : Keep X h h') (s : Sub h X' X) : ∀ {bm : List (Str × MV)} {binds : List (Str × Value)}, KVs G X h bm binds → KVs G X' h' bm binds
  | [], _, r => r
  | (y, m) :: bm, _, r => by obtain ⟨v, q, rfl, r1, r2⟩ := r; exact ⟨v, q, rfl, VR.keep k s _ _ r1, KVs.keep k s r2⟩
theorem lookup_none_of {α : Type} {x : Str} : ∀ {l : List (Str × α)}, x ∉ l.map (·.1) → l.lookup x = none
  | [], _ => rfl
  | (y, v) :: r, h => by
    rw [List.map_cons, List.mem_cons, not_or] at h
    rw [List.lookup_cons, show (x == y) = false by simpa using h.1]
    exact lookup_none_of h.2
theorem bindL_eq {kindOf : Str → Option NameKind} {x : Str} (hx : kindOf x = some .local) : ∀ {binds : List (Str × Value)} {m : Str → Option Value}, (binds.map (·.1)).Nodup → bindL kindOf binds m x = (binds.lookup x).or (m x)
  | [], m, _ => rfl
  | (y, v) :: r, m, hn => by
    rw [List.map_cons, List.nodup_cons] at hn
    rw [bindL, bindL_eq hx hn.2, List.lookup_cons]
    by_cases e : x = y
    · subst e
      rw [beq_self_eq_true, lookup_none_of hn.1, if_pos hx]
      simp
    · rw [show (x == y) = false by simpa using e]
      split
      · show (List.lookup x r).or (if x = y then some v else m x) = _; rw [if_neg e]
      · rfl
theorem bindC_eq {kindOf : Str → Option NameKind} {x : Str} (hx : kindOf x = some .cell) : ∀ {binds : List (Str × Value)} {m : Str → Option Value}, (binds.map (·.1)).Nodup → bindC kindOf binds m x = (binds.lookup x).or (m x)
  | [], m, _ => rfl
  | (y, v) :: r, m, hn => by
    rw [List.map_cons, List.nodup_cons] at hn
    rw [bindC, bindC_eq hx hn.2, List.lookup_cons]
    by_cases e : x = y
    · subst e
      rw [beq_self_eq_true, lookup_none_of hn.1, if_neg (by rw [hx]; decide)]
      simp
    · rw [show (x == y) = false by simpa using e]
      split
      · rfl
      · show (List.lookup x r).or (if x = y then some v else m x) = _; rw [if_neg e]
noncomputable def l0 (C : Ctx) (bm : List (Str × MV)) : Loc := C.slots.map fun p => bm.lookup p.1
noncomputable def bmOk (C : Ctx) (bm : List Str) : Bool := decide bm.Nodup && bm.all fun x => match C.slots.lookup x with | some .fr => false | some _ => true | none => false
section
variable {d : Nat} {C : Ctx} {env : Env} {F : FP} {Z Z' W : List Addr} {l : Loc} {H H' H₁ : MH} {s s' s₁ s₂ : Shared} {A : Around} {E : Value → Shared → Prop} {h h' : Heap}
abbrev ncOf (C : Ctx) (cs : List (Str × Addr)) : List Addr := C.slots.filterMap fun p => if p.2 = .nc then cs.lookup p.1 else none
abbrev ccOf (C : Ctx) (cs : List (Str × Addr)) : List Addr := C.slots.filterMap fun p => if p.2 = .cc then cs.lookup p.1 else none
theorem mem_cOf {cs : List (Str × Addr)} {a : Addr} {k : SK} : a ∈ (C.slots.filterMap fun p => if p.2 = k then cs.lookup p.1 else none) ↔ ∃ (i : Nat) (x : Str), C.slots[i]? = some (x, k) ∧ cs.lookup x = some a := by
  rw [List.mem_filterMap]
  constructor
  · rintro ⟨p, hp, e⟩
    by_cases q : p.2 = k
    · rw [if_pos q] at e
      obtain ⟨i, hi⟩ := List.getElem?_of_mem hp
      exact ⟨i, p.1, by rw [hi, ← q], e⟩
    · rw [if_neg q] at e; cases e
  · rintro ⟨i, x, hi, e⟩
    exact ⟨(x, k), List.mem_of_getElem? hi, by rw [if_pos rfl]; exact e⟩
theorem fr_call {fd : FuncData} {bm : List (Str × MV)} {binds : List (Str × Value)} {a : Addr} (ok : CtxOk C fd.scope) (hfr : ∀ (i : Nat) (x : Str), C.slots[i]? ≠ some (x, SK.fr)) (I : Inv G Z H s.heap) (rb : KVs G (keys H ++ Z) s.heap bm binds) (hnd : (bm.map (·.1)).Nodup)
    (hg : fd.globals = mainGlobals) (hb : fd.builtins = builtinsNs) (hc : ∀ c, C.code = some c → fd.code = .ref c) (hq : C.qual = fd.qualname ++ ".<locals>.") (he : env = callEnvC fd s.heap.objs.size a)
    (x : InCallC s env.locals (bindL env.kindOf binds fun _ => none) env.cells (bindC env.kindOf binds fun _ => none) s₁) :
    ∃ F : FP, (∀ b ∈ F.all, s.heap.get? b = none) ∧ F.fc = [] ∧ Grew s.heap s₁.heap ∧ (∃ h' tk, s₁ = { s with heap := h', toks := tk }) ∧ Inv G ((F.L :: F.nc) ++ Z) H s₁.heap ∧ FR G C env F ((F.L :: F.nc) ++ Z) (l0 C bm) H s₁.heap := by
  have gr : Grew s.heap s₁.heap := x.toInCall.keep
  have hL : env.locals = s.heap.objs.size := by rw [he]; rfl
  have hLn : s.heap.get? env.locals = none := hL ▸ fresh_size _
  have hcn : ∀ n c, env.cells.lookup n = some c → s.heap.get? c = none ∧ env.locals < c := fun n c e => by
    have := x.above n c (mem_of_lookup e)
    exact ⟨Heap.get?_none_of_le (by rw [hL] at this; exact Nat.le_of_lt this), this⟩
  have hinj : ∀ (y z : Str) (c : Addr), env.cells.lookup y = some c → env.cells.lookup z = some c → y = z := fun y z c e1 e2 => name_of_addr x.apart (mem_of_lookup e1) (mem_of_lookup e2)
  have kind : ∀ y, env.kindOf y = fd.scope.names.lookup y := fun y => by rw [he]; rfl
  have cell : ∀ (i : Nat) (y : Str) (k : SK), C.slots[i]? = some (y, k) → k = .nc ∨ k = .cc → env.kindOf y = some .cell ∧ ∃ c, env.cells.lookup y = some c := fun i y k e hk => by
    have hl := ok.slot i y k e
    have hn : k.nk = .cell := by rcases hk with rfl | rfl <;> rfl
    rw [hn] at hl
    refine ⟨(kind y).trans hl, ?_⟩
    rw [he]
    exact cells_some y _ _ [] (.inl (mem_of_lookup hl))
  let F : FP := ⟨env.locals, ncOf C env.cells, ccOf C env.cells, []⟩
  have all : ∀ b ∈ F.all, s.heap.get? b = none ∧ ∃ o, s₁.heap.get? b = some o := fun b m => by
    have cc : ∀ n c, env.cells.lookup n = some c → s.heap.get? c = none ∧ ∃ o, s₁.heap.get? c = some o := fun n c e => ⟨(hcn n c e).1, let ⟨o, g, _⟩ := x.cell n c e; ⟨o, g⟩⟩
    rcases List.mem_append.mp m with m | m
    · rcases List.mem_cons.mp m with rfl | m
      · exact ⟨hLn, let ⟨o, _, _, e, _⟩ := x.toInCall.ns; ⟨o, e⟩⟩
      · obtain ⟨i, y, _, e⟩ := mem_cOf.mp m
        exact cc y b e
    · obtain ⟨i, y, _, e⟩ := mem_cOf.mp m
      exact cc y b e
  have lnc : ∀ b ∈ F.L :: F.nc, b ∈ F.all := fun b m => List.mem_append_left _ m
  have J : Inv G ((F.L :: F.nc) ++ Z) H s₁.heap := I.addZ gr (fun b m => (all b (lnc b m)).1) (fun b m => (all b (lnc b m)).2)
  have sb : Sub s.heap (keys H ++ ((F.L :: F.nc) ++ Z)) (keys H ++ Z) := fun b m => by
    rcases List.mem_append.mp m with m | m
    · exact .inl (List.mem_append_left _ m)
    · rcases List.mem_append.mp m with m | m
      · exact .inr (all b (lnc b m)).1
      · exact .inl (List.mem_append_right _ m)
  have rb' : KVs G (keys H ++ ((F.L :: F.nc) ++ Z)) s₁.heap bm binds := KVs.keep (fun a o _ _ e => gr a o e) sb rb
  have hnd' : (binds.map (·.1)).Nodup := by rw [kvs_names rb]; exact hnd
  have l0g : ∀ (i : Nat) (y : Str) (k : SK), C.slots[i]? = some (y, k) → (l0 C bm)[i]? = some (bm.lookup y) := fun i y k e => by
    unfold l0; rw [List.getElem?_map, e]; rfl
  have ncc : ∀ b ∈ F.nc, b ∉ F.cc := fun b m q => by
    obtain ⟨i, y, e1, e2⟩ := mem_cOf.mp m
    obtain ⟨j, z, e3, e4⟩ := mem_cOf.mp q
    have := hinj y z b e2 e4
    subst this
    have hij := slot_inj ok.nd e1 e3
    subst hij
    rw [e1] at e3; cases e3
  have hLc : F.L ∉ F.nc ++ F.cc := fun m => by
    have : ∀ n, env.cells.lookup n = some env.locals → False := fun n e => Nat.lt_irrefl _ (hcn n _ e).2
    rcases List.mem_append.mp m with m | m
    · obtain ⟨i, y, _, e⟩ := mem_cOf.mp m; exact this y e
    · obtain ⟨i, y, _, e⟩ := mem_cOf.mp m; exact this y e
  refine ⟨F, fun b m => (all b m).1, rfl, gr, let ⟨h', tk, e, _⟩ := x.done; ⟨h', tk, e⟩, J, ?_⟩
  refine ⟨by rw [he]; exact ok.kind, rfl, by rw [he]; exact hg, by rw [he]; exact hb, fun c e => by rw [he]; exact hc c e, by rw [he]; exact hq.symm, by unfold l0; rw [List.length_map], ok.nd, ⟨_, x.toInCall.ns, fun i y e => ?_⟩, fun i y k e hk => ?_, fun i y e => absurd e (hfr i y), fun y hy => (kind y).trans (ok.glob y hy), ok.dbg, ok.cls, fun _ _ y z _ _ c _ _ _ _ e1 e2 => hinj y z c e1 e2, fun b m q => ?_, ⟨hLc, ncc⟩, fun b m => List.mem_append_left _ m, fun b m q => ?_, fun b m => ?_, fun b m => (all b m).2, fun i y c e _ => absurd e (hfr i y), fun i y e => absurd e (hfr i y), nofun, nofun⟩
  · have hk : env.kindOf y = some .local := (kind y).trans (ok.slot i y _ e)
    refine ⟨hk, fun v ev => ?_⟩
    rw [l0g i y _ e] at ev
    obtain ⟨rv, e1, e2⟩ := (bind_lookup rb').1 v (Option.some.inj ev)
    exact ⟨rv, by rw [bindL_eq hk hnd', e1]; rfl, e2⟩
  · obtain ⟨hkc, c, ec⟩ := cell i y k e hk
    refine ⟨hkc, c, ec, fun q => mem_cOf.mpr ⟨i, y, q ▸ e, ec⟩, fun q => mem_cOf.mpr ⟨i, y, q ▸ e, ec⟩, _, x.cell y c ec, fun v ev => ?_, fun q ev => ?_⟩
    · rw [l0g i y _ e] at ev
      obtain ⟨rv, e1, e2⟩ := (bind_lookup rb').1 v (Option.some.inj ev)
      exact ⟨rv, by rw [bindC_eq hkc hnd', e1]; rfl, e2⟩
    · rw [l0g i y _ e] at ev
      rw [bindC_eq hkc hnd', (bind_lookup rb').2 (Option.some.inj ev)]; rfl
  · have hn := (all b m).1
    rcases List.mem_append.mp q with q | q
    · exact I.off hn (List.mem_append_left _ q)
    · exact I.off hn (List.mem_append_right _ (I.tp b q))
  · have hn := (all b (List.mem_append_right _ m)).1
    rcases List.mem_append.mp q with q | q
    · rcases List.mem_cons.mp q with rfl | q
      · exact hLc (List.mem_append_right _ m)
      · exact ncc b q m
    · exact I.off hn (List.mem_append_right _ q)
  · have hn := (all b m).1
    cases e : G.B.get? b with
    | none => rfl
    | some o => have := I.keep b o e; rw [hn] at this; cases this
end
end Mine
namespace Mine
variable {G : Stat}
theorem call_end {F : FP} {Z : List Addr} {H H' : MH} {s s₁ s₂ : Shared} (I : Inv G Z H s.heap) (hn : ∀ b ∈ F.all, s.heap.get? b = none) (gr : Grew s.heap s₁.heap) (hs : ∃ h' tk, s₁ = { s with heap := h', toks := tk })
    (T : TrW G ((F.L :: F.nc) ++ Z) F.all H s₁ H' s₂) : Tr G Z H s H' s₂ := by
  obtain ⟨h', tk, e⟩ := hs
  refine Tr.ofN hn (T.inv.dropZ I.tp) (fun a o q e => T.keep a o q (gr a o e)) (fun a m => ?_) (T.gens.trans (by rw [e])) (T.os.trans (by rw [e]))
  rcases T.sub a m with q | q
  · exact .inl q
  · refine .inr ?_
    cases e : s.heap.get? a with
    | none => rfl
    | some o => have := gr a o e; rw [q] at this; cases this
theorem noFr {C : Ctx} (h : (C.slots.all fun p => p.2 != .fr) = true) : ∀ (i : Nat) (x : Str), C.slots[i]? ≠ some (x, SK.fr) := fun i x e => by
  have := List.all_eq_true.mp h _ (List.mem_of_getElem? e)
  simp at this
structure GFn (G : Stat) (a : Addr) (C : Ctx) (body : MSs) : Prop where
  ex : ∃ o fd, G.B.get? a = some o ∧ o.data = .func fd ∧ fd.body = .stmts (denSs C body) ∧ fd.closure = [] ∧ fd.globals = mainGlobals ∧ fd.builtins = builtinsNs ∧ (∀ c, C.code = some c → fd.code = .ref c) ∧
    C.qual = fd.qualname ++ ".<locals>." ∧ G.B.CodeRec fd.code fd.qualname ∧ ctxOk C fd.scope = true
  nofr : (C.slots.all fun p => p.2 != .fr) = true
  ok : okSs C body = true
noncomputable def Binds (G : Stat) (a : Addr) (C : Ctx) (args : List MV) (kw : List (Str × MV)) (bm : List (Str × MV)) : Prop :=
  ((bm.map (·.1)).Nodup ∧ ∀ x ∈ bm.map (·.1), ∃ (i : Nat) (k : SK), C.slots[i]? = some (x, k)) ∧
  ∀ (o : Obj) (fd : FuncData), G.B.get? a = some o → o.data = .func fd → ∀ (s : Shared) (X : List Addr) (vs : List Value) (kvs : List (Str × Value)), Inv0 G s.heap → VRs G X s.heap args vs → KVs G X s.heap kw kvs →
    ∃ binds, BindsTo s fd ⟨vs, kvs⟩ binds ∧ KVs G X s.heap bm binds
theorem Room.deeper {A : Around} {d : Nat} (h : Room A (d + 1)) (env : Env) : Room (A.deeper env) d :=
  ⟨h.hd, by have := h.depth; show A.depth + 1 + d ≤ 900; lia, by have := h.units; show A.units + 3 + 4 * d ≤ 9000; lia⟩
theorem calls_fn (hS : StatOk G) {a : Addr} {C : Ctx} {body : MSs} (g : GFn G a C body) {d : Nat} {args : List MV} {kw : List (Str × MV)} {bm : List (Str × MV)} {H : MH} {Q : MV → MH → Prop} (hb : Binds G a C args kw bm)
    (hex : exs G d body C (l0 C bm) H (fun _ H' => Q .none H') Q) : Calls G (d + 1) (.fn a) args kw H Q := by
  intro A s Z fv vs kvs rm I hf ra rk
  have : fv = .ref a := hf
  subst this
  obtain ⟨o, fd, hB, hd, hbody, hclo, hgl, hbu, hcode, hq, hcr, hctx⟩ := g.ex
  have ok := ctxOk_of hctx
  obtain ⟨binds, hbind, rb⟩ := hb.2 o fd hB hd s (keys H ++ Z) vs kvs I.keep ra rk
  refine codeAny_call_function (by have := rm.depth; show A.depth < 1000; lia) (I.keep _ _ hB) hd ok.nco ok.ngen hbody (hcr.keeps I.keep) (hbind _ _ _ _ ?_)
  rw [hclo]
  refine wpAny_newFunctionEnv_cells ok.kind (fun x hx => ?_) fun env he s₁ x => ?_
  · have hm : x.1 ∈ bm.map (·.1) := by rw [← kvs_names rb]; exact List.mem_map_of_mem (f := fun p : Str × Value => p.1) hx
    obtain ⟨i, k, e⟩ := hb.1.2 _ hm
    have hl := ok.slot i _ k e
    cases k with
    | loc => exact .inl hl
    | nc =>
      obtain ⟨c, ec⟩ := cells_some x.1 fd.scope.names (s.heap.objs.size + 1) [] (.inl (mem_of_lookup hl))
      exact .inr ⟨hl, by rw [ec]; rfl⟩
    | cc =>
      obtain ⟨c, ec⟩ := cells_some x.1 fd.scope.names (s.heap.objs.size + 1) [] (.inl (mem_of_lookup hl))
      exact .inr ⟨hl, by rw [ec]; rfl⟩
    | fr => exact absurd e (noFr g.nofr i _)
  · obtain ⟨F, hn, hfc, gr, hs, J, R⟩ := fr_call (a := a) (C := C) ok (noFr g.nofr) I rb hb.1.1 hgl hbu hcode hq (by rw [he]; rfl) x
    refine ⟨hS.nolimit.keeps J.keep, codeAny_func ?_⟩
    refine wpAny_mono (soundSs hS body g.ok (rm.deeper env) R J hex) (fun f s₂ h => ?_) fun _ _ x => x
    cases f with
    | next =>
      obtain ⟨l', H', hq, T, R'⟩ := h
      exact ⟨.none, rfl, .none, H', hq, call_end I hn gr hs T, by unfold VR; rfl⟩
    | ret v =>
      obtain ⟨m, H', hq, T, r⟩ := h
      exact ⟨v, rfl, m, H', hq, call_end I hn gr hs T, r.sub fun b m => mem_z m⟩
    | brk => exact h.elim
    | cont => exact h.elim
theorem vf_get {X : List Addr} {h : Heap} {cl : List (Str × Addr)} : ∀ {vs : List MV} {xs : List Str}, VF G X h cl vs xs → ∀ {y : Str} {v : MV}, (xs.zip vs).lookup y = some v → ∃ c rv, cl.lookup y = some c ∧ c ∉ X ∧ h.IsCell c (some rv) ∧ VR G X h v rv
  | [], xs, r, y, v, e => by
    unfold VF at r; subst r; cases e
  | m :: ms, xs, r, y, v, e => by
    unfold VF at r
    obtain ⟨x, q, rfl, ⟨c, rv, ec, hc, ic, r1⟩, r2⟩ := r
    rw [List.zip_cons_cons, List.lookup_cons] at e
    cases hb : y == x with
    | true => rw [hb] at e; cases e; rw [beq_iff_eq.mp hb]; exact ⟨c, rv, ec, hc, ic, r1⟩
    | false => rw [hb] at e; exact vf_get r2 e
theorem vf_all {X : List Addr} {h : Heap} {cl : List (Str × Addr)} : ∀ {vs : List MV} {xs : List Str}, VF G X h cl vs xs → ∀ y ∈ xs, ∃ v, (xs.zip vs).lookup y = some v
  | [], xs, r, y, hy => by unfold VF at r; subst r; cases hy
  | m :: ms, xs, r, y, hy => by
    unfold VF at r
    obtain ⟨x, q, rfl, _, r2⟩ := r
    rw [List.zip_cons_cons, List.lookup_cons]
    cases hb : y == x with
    | true => exact ⟨m, rfl⟩
    | false =>
      rcases List.mem_cons.mp hy with e | hy
      · rw [e] at hb; simp at hb
      · exact vf_all r2 y hy
noncomputable def lc0 (C : Ctx) (bm : List (Str × MV)) (fr : List (Str × MV)) : Loc := C.slots.map fun p => if p.2 = .fr then fr.lookup p.1 else bm.lookup p.1
noncomputable def frOf (G : Stat) (k : Nat) (vs : List MV) : List (Str × MV) := (match (G.clo k).self with | some x => [(x, .clo k vs)] | none => []) ++ (G.clo k).free.zip vs
structure GClo (G : Stat) (k : Nat) (C : Ctx) : Prop where
  ctx : ctxOk C (G.clo k).scope = true
  qual : C.qual = (G.clo k).qual ++ ".<locals>."
  code : C.code = none
  kinds : (C.slots.all fun p => p.2 == .fr || p.2 == .loc) = true
  nocell : ((G.clo k).scope.names.all fun p => p.2 != .cell) = true
  frees : (C.slots.all fun p => p.2 != .fr || (G.clo k).free.contains p.1 || (G.clo k).self == some p.1) = true
  dj : ∀ x, (G.clo k).self = some x → x ∉ (G.clo k).free
  fnd : (G.clo k).free.Nodup
noncomputable def BindsC (G : Stat) (k : Nat) (C : Ctx) (args : List MV) (bm : List (Str × MV)) : Prop :=
  ((bm.map (·.1)).Nodup ∧ ∀ x ∈ bm.map (·.1), ∃ (i : Nat), C.slots[i]? = some (x, .loc)) ∧
  ∀ (fd : FuncData), FdOk (G.clo k) fd → ∀ (s : Shared) (X : List Addr) (vs : List Value), VRs G X s.heap args vs → ∃ binds, BindsTo s fd ⟨vs, []⟩ binds ∧ KVs G X s.heap bm binds
end Mine
namespace Mine
variable {G : Stat}
theorem lookup_nodup {α : Type} {x : Str} {v : α} : ∀ {l : List (Str × α)}, (l.map (·.1)).Nodup → (x, v) ∈ l → l.lookup x = some v
  | (y, w) :: r, hn, hm => by
    rw [List.map_cons, List.nodup_cons] at hn
    rw [List.lookup_cons]
    rcases List.mem_cons.mp hm with e | hm
    · cases e; rw [beq_self_eq_true]
    · have : x ∈ r.map (·.1) := List.mem_map_of_mem (f := fun p : Str × α => p.1) hm
      have hxy : x ≠ y := fun e => hn.1 (e ▸ this)
      rw [show (x == y) = false by simpa using hxy]
      exact lookup_nodup hn.2 hm
theorem lookup_rev {α : Type} {x : Str} {l : List (Str × α)} (hn : (l.map (·.1)).Nodup) : l.reverse.lookup x = l.lookup x := by
  cases e : l.lookup x with
  | none =>
    refine lookup_none_of fun m => ?_
    rw [List.map_reverse, List.mem_reverse] at m
    obtain ⟨⟨y, v⟩, hm, e2⟩ := List.mem_map.mp m
    have e3 : y = x := e2
    subst e3
    rw [lookup_nodup hn hm] at e; cases e
  | some v =>
    exact lookup_nodup (by rw [List.map_reverse]; exact List.pairwise_reverse.mpr (hn.imp fun h => Ne.symm h)) (List.mem_reverse.mpr (mem_of_lookup e))
section
variable {d : Nat} {C : Ctx} {env : Env} {F : FP} {Z Z' W : List Addr} {l : Loc} {H H' H₁ : MH} {s s' s₁ s₂ : Shared} {A : Around} {E : Value → Shared → Prop} {h h' : Heap}
theorem fr_clo {k : Nat} {cs : List MV} {bm : List (Str × MV)} {binds : List (Str × Value)} {f : Addr} {fd : FuncData} (g : GClo G k C) (I : Inv G Z H s.heap)
    (vr : VR G (keys H ++ Z) s.heap (.clo k cs) (.ref f)) (fok : FdOk (G.clo k) fd)
    (hself : ∀ x, (G.clo k).self = some x → ∃ c', fd.closure.lookup x = some c' ∧ c' ∉ keys H ++ Z ∧ s.heap.IsCell c' (some (.ref f))) (vf : VF G (keys H ++ Z) s.heap fd.closure cs (G.clo k).free)
    (rb : KVs G (keys H ++ Z) s.heap bm binds) (hnd : (bm.map (·.1)).Nodup) {L : Addr} (hL : s.heap.get? L = none) (gr : Grew s.heap h') (hns : h'.Ns L fun x => binds.reverse.lookup x)
    (he : env = newEnv fd.scope L fd.globals fd.closure (fd.qualname ++ ".<locals>.") (some f) fd.code none fd.builtins) :
    FR G C env ⟨L, [], [], C.slots.filterMap fun p => if p.2 = .fr then fd.closure.lookup p.1 else none⟩ ([L] ++ Z) (lc0 C bm (frOf G k cs)) H h' := by
  have ok := ctxOk_of g.ctx
  rw [← fok.scope] at ok
  have sb : Sub s.heap (keys H ++ ([L] ++ Z)) (keys H ++ Z) := fun b m => by
    rcases List.mem_append.mp m with m | m
    · exact .inl (List.mem_append_left _ m)
    · rcases List.mem_append.mp m with m | m
      · exact .inr (by rw [List.mem_singleton.mp m]; exact hL)
      · exact .inl (List.mem_append_right _ m)
  have up : ∀ {m : MV} {v : Value}, VR G (keys H ++ Z) s.heap m v → VR G (keys H ++ ([L] ++ Z)) h' m v := fun r => VR.keep (fun a o _ _ e => gr a o e) sb _ _ r
  have rb' : KVs G (keys H ++ ([L] ++ Z)) h' bm binds := KVs.keep (fun a o _ _ e => gr a o e) sb rb
  have hnd' : (binds.map (·.1)).Nodup := by rw [kvs_names rb]; exact hnd
  have kind : ∀ y, env.kindOf y = fd.scope.names.lookup y := fun y => by rw [he]; rfl
  have cells : env.cells = fd.closure := by rw [he]; rfl
  have kinds : ∀ (i : Nat) (x : Str) (q : SK), C.slots[i]? = some (x, q) → q = .fr ∨ q = .loc := fun i x q e => by
    have := List.all_eq_true.mp g.kinds _ (List.mem_of_getElem? e)
    simpa using this
  have fget : ∀ (x : Str) (v : MV), (frOf G k cs).lookup x = some v → ∃ c rv, fd.closure.lookup x = some c ∧ c ∉ keys H ++ Z ∧ s.heap.IsCell c (some rv) ∧ VR G (keys H ++ Z) s.heap v rv := fun x v e => by
    unfold frOf at e
    cases es : (G.clo k).self with
    | none => rw [es] at e; exact vf_get vf e
    | some y =>
      rw [es] at e
      rw [List.cons_append, List.nil_append, List.lookup_cons] at e
      cases hb : x == y with
      | true =>
        rw [hb] at e; cases e
        obtain ⟨c', h1, h2, h3⟩ := hself y es
        rw [beq_iff_eq.mp hb]
        exact ⟨c', _, h1, h2, h3, vr⟩
      | false => rw [hb] at e; exact vf_get vf e
  have fall : ∀ (i : Nat) (x : Str), C.slots[i]? = some (x, .fr) → ∃ v, (frOf G k cs).lookup x = some v := fun i x e => by
    have := List.all_eq_true.mp g.frees _ (List.mem_of_getElem? e)
    simp only [bne_self_eq_false, Bool.false_or, Bool.or_eq_true] at this
    unfold frOf
    cases es : (G.clo k).self with
    | none =>
      rw [es] at this
      rcases this with q | q
      · exact vf_all vf x (by simpa using q)
      · simp at q
    | some y =>
      rw [es] at this
      rw [List.cons_append, List.nil_append, List.lookup_cons]
      cases hb : x == y with
      | true => exact ⟨_, rfl⟩
      | false =>
        rcases this with q | q
        · exact vf_all vf x (by simpa using q)
        · have : y = x := by simpa using q
          rw [this] at hb; simp at hb
  have fcell : ∀ (i : Nat) (x : Str), C.slots[i]? = some (x, .fr) → ∃ c, fd.closure.lookup x = some c ∧ c ∉ keys H ++ Z ∧ ∃ o, s.heap.get? c = some o := fun i x e => by
    obtain ⟨v, ev⟩ := fall i x e
    obtain ⟨c, rv, h1, h2, ⟨o, h3, _⟩, _⟩ := fget x v ev
    exact ⟨c, h1, h2, o, h3⟩
  have hfc : ∀ a, a ∈ (C.slots.filterMap fun p => if p.2 = .fr then fd.closure.lookup p.1 else none) → a ∉ keys H ++ Z ∧ ∃ o, s.heap.get? a = some o := fun a m => by
    obtain ⟨i, x, e1, e2⟩ := mem_cOf.mp m
    obtain ⟨c, h1, h2, h3⟩ := fcell i x e1
    rw [e2] at h1; cases h1
    exact ⟨h2, h3⟩
  have offY : ∀ c, c ∉ keys H ++ Z → c ∉ keys H ++ G.TP := fun c hc m => hc (I.y_sub c m)
  have hLX := I.off hL
  have dm : ∀ a, a ∈ L :: ([] : List Addr) ++ [] → a = L := fun a m => by simpa using m
  have slotL : ∀ (i : Nat) (x : Str) (q : SK), C.slots[i]? = some (x, q) → (lc0 C bm (frOf G k cs))[i]? = some (if q = .fr then (frOf G k cs).lookup x else bm.lookup x) := fun i x q e => by
    unfold lc0; rw [List.getElem?_map, e]; rfl
  refine ⟨by rw [he]; exact ok.kind, by rw [he]; rfl, by rw [he]; exact fok.globals, by rw [he]; exact fok.builtins, fun c e => (by rw [g.code] at e; cases e), by rw [he, g.qual, ← fok.qual]; rfl, by unfold lc0; rw [List.length_map], ok.nd, ⟨_, hns, fun i y e => ?_⟩, fun i y q e hk => ?_, fun i y e => ?_,
    fun y hy => (kind y).trans (ok.glob y hy), ok.dbg, ok.cls, fun i j y z q q' c e1 e2 hk => ?_, fun a m => ?_, ⟨by simp, nofun⟩, fun a m => List.mem_append_left _ (by simpa using m), nofun, fun a m => ?_, fun a m => ?_, fun i y c e e1 => ?_, fun i y e => ?_, fun a m => offY a (hfc a m).1, fun a m => ?_⟩
  · refine ⟨(kind y).trans (ok.slot i y _ e), fun v ev => ?_⟩
    rw [slotL i y _ e, if_neg (by decide)] at ev
    obtain ⟨rv, e1, e2⟩ := (bind_lookup rb').1 v (Option.some.inj ev)
    exact ⟨rv, by rw [lookup_rev hnd']; exact e1, e2⟩
  · rcases kinds i y q e with q' | q'
    · rw [q'] at hk; rcases hk with hk | hk <;> cases hk
    · rw [q'] at hk; rcases hk with hk | hk <;> cases hk
  · refine ⟨.inl ((kind y).trans (ok.slot i y _ e)), fun v ev => ?_⟩
    rw [slotL i y _ e, if_pos rfl] at ev
    obtain ⟨c, rv, h1, h2, ⟨o', h3, h4⟩, h5⟩ := fget y v (Option.some.inj ev)
    refine ⟨c, rv, by rw [cells]; exact h1, offY c h2, fun q => ?_, nofun, nofun, ⟨o', gr _ _ h3, h4⟩, up h5⟩
    have : c = L := q
    rw [this, hL] at h3; cases h3
  · rcases kinds i y q e1 with q' | q'
    · rw [q'] at hk; rcases hk with hk | hk <;> cases hk
    · rw [q'] at hk; rcases hk with hk | hk <;> cases hk
  · rw [dm a m]; exact offY L hLX
  · rw [dm a m]
    cases e : G.B.get? L with
    | none => rfl
    | some o => have := I.keep L o e; rw [hL] at this; cases this
  · rw [dm a m]
    obtain ⟨o, _, _, e, _⟩ := hns
    exact ⟨o, e⟩
  · rw [cells] at e1; exact mem_cOf.mpr ⟨i, y, e, e1⟩
  · obtain ⟨c, h1, _⟩ := fcell i y e
    exact ⟨c, by rw [cells]; exact h1⟩
  · obtain ⟨o, e⟩ := (hfc a m).2
    exact ⟨o, gr _ _ e⟩
theorem calls_clo (hS : StatOk G) {k : Nat} {C : Ctx} {body : MSs} (g : GClo G k C) (hbody : (G.clo k).body = .stmts (denSs C body)) (hok : okSs C body = true) {d : Nat} {cs args : List MV} {bm : List (Str × MV)} {H : MH} {Q : MV → MH → Prop}
    (hb : BindsC G k C args bm) (hex : exs G d body C (lc0 C bm (frOf G k cs)) H (fun _ H' => Q .none H') Q) : Calls G (d + 1) (.clo k cs) args [] H Q := by
  intro A s Z fv vs kvs rm I hf ra rk
  have hf' : VR G (keys H ++ Z) s.heap (.clo k cs) fv := hf
  have hf2 := hf'
  unfold VR at hf2
  obtain ⟨f, o, fd, c, rfl, hx, hg, hd, fok, ec, hc, rc, hself, vf⟩ := hf2
  have : kvs = [] := rk
  subst this
  have ok := ctxOk_of g.ctx
  rw [← fok.scope] at ok
  obtain ⟨binds, hbind, rb⟩ := hb.2 fd fok s (keys H ++ Z) vs ra
  refine codeAny_call_function (by have := rm.depth; show A.depth < 1000; lia) hg hd ok.nco ok.ngen (fok.body.trans hbody) (by rw [ec, fok.qual]; exact rc) (hbind _ _ _ _ ?_)
  refine wpAny_newFunctionEnv (fun x hx => ?_) (fun x hx => ?_) (fun h' hns hsb => ?_) ok.kind
  · have := List.all_eq_true.mp g.nocell x (by rw [← fok.scope]; exact hx)
    simpa using this
  · have hm : x.1 ∈ bm.map (·.1) := by rw [← kvs_names rb]; exact List.mem_map_of_mem (f := fun p : Str × Value => p.1) hx
    obtain ⟨i, e⟩ := hb.1.2 _ hm
    exact ok.slot i _ _ e
  · have gr : Grew s.heap h' := fun a o e => hsb.extBut a o (Nat.ne_of_lt (Heap.lt_size e)) (Heap.get?_push_of_some _ e)
    have R := fr_clo g I hf' fok hself vf rb hb.1.1 (fresh_size _) gr hns rfl
    have J : Inv G ([s.heap.objs.size] ++ Z) H h' := I.addZ gr (fun a m => by rw [List.mem_singleton.mp m]; exact fresh_size _) (fun a m => by rw [List.mem_singleton.mp m]; obtain ⟨o, _, _, e, _⟩ := hns; exact ⟨o, e⟩)
    refine ⟨hS.nolimit.keeps J.keep, codeAny_func ?_⟩
    refine wpAny_mono (soundSs hS body hok (rm.deeper _) R J hex) (fun f s₂ h => ?_) fun _ _ x => x
    have hn : ∀ b ∈ (⟨s.heap.objs.size, [], [], C.slots.filterMap fun p => if p.2 = .fr then fd.closure.lookup p.1 else none⟩ : FP).all, s.heap.get? b = none := fun b m => by
      have : b = s.heap.objs.size := by simpa using m
      rw [this]; exact fresh_size _
    cases f with
    | next =>
      obtain ⟨l', H', hq, T, R'⟩ := h
      exact ⟨.none, rfl, .none, H', hq, call_end I hn gr ⟨_, _, rfl⟩ T, by unfold VR; rfl⟩
    | ret v =>
      obtain ⟨m, H', hq, T, r⟩ := h
      exact ⟨v, rfl, m, H', hq, call_end I hn gr ⟨_, _, rfl⟩ T, r.sub fun b m => mem_z m⟩
    | brk => exact h.elim
    | cont => exact h.elim
theorem calls_lam (hS : StatOk G) {k : Nat} {C : Ctx} {e : ME} (g : GClo G k C) (hbody : (G.clo k).body = .expr (den C e)) (hok : okE C e = true) {d : Nat} {cs args : List MV} {bm : List (Str × MV)} {H : MH} {Q : MV → MH → Prop}
    (hb : BindsC G k C args bm) (hex : ev G d e C (lc0 C bm (frOf G k cs)) H Q) : Calls G (d + 1) (.clo k cs) args [] H Q := by
  intro A s Z fv vs kvs rm I hf ra rk
  have hf' : VR G (keys H ++ Z) s.heap (.clo k cs) fv := hf
  have hf2 := hf'
  unfold VR at hf2
  obtain ⟨f, o, fd, c, rfl, hx, hg, hd, fok, ec, hc, rc, hself, vf⟩ := hf2
  have : kvs = [] := rk
  subst this
  have ok := ctxOk_of g.ctx
  rw [← fok.scope] at ok
  obtain ⟨binds, hbind, rb⟩ := hb.2 fd fok s (keys H ++ Z) vs ra
  refine kla_callFunE (by have := rm.depth; show A.depth < 1000; lia) hg hd ok.nco ok.ngen (fok.body.trans hbody) (by rw [ec, fok.qual]; exact rc) (hbind _ _ _ _ ?_)
  refine wpAny_newFunctionEnv (fun x hx => ?_) (fun x hx => ?_) (fun h' hns hsb => ?_) ok.kind
  · have := List.all_eq_true.mp g.nocell x (by rw [← fok.scope]; exact hx)
    simpa using this
  · have hm : x.1 ∈ bm.map (·.1) := by rw [← kvs_names rb]; exact List.mem_map_of_mem (f := fun p : Str × Value => p.1) hx
    obtain ⟨i, e⟩ := hb.1.2 _ hm
    exact ok.slot i _ _ e
  · have gr : Grew s.heap h' := fun a o e => hsb.extBut a o (Nat.ne_of_lt (Heap.lt_size e)) (Heap.get?_push_of_some _ e)
    have R := fr_clo g I hf' fok hself vf rb hb.1.1 (fresh_size _) gr hns rfl
    have J : Inv G ([s.heap.objs.size] ++ Z) H h' := I.addZ gr (fun a m => by rw [List.mem_singleton.mp m]; exact fresh_size _) (fun a m => by rw [List.mem_singleton.mp m]; obtain ⟨o, _, _, e, _⟩ := hns; exact ⟨o, e⟩)
    refine ⟨hS.nolimit.keeps J.keep, kla_codeExpr ?_⟩
    refine wpAny_mono ((soundE hS e).1 hok (rm.deeper _) R J hex) (fun v s₂ h => ?_) fun _ _ x => x
    obtain ⟨m, H', hq, T, r⟩ := h
    have hn : ∀ b ∈ (⟨s.heap.objs.size, [], [], C.slots.filterMap fun p => if p.2 = .fr then fd.closure.lookup p.1 else none⟩ : FP).all, s.heap.get? b = none := fun b m => by
      have : b = s.heap.objs.size := by simpa using m
      rw [this]; exact fresh_size _
    exact ⟨v, rfl, m, H', hq, call_end (F := ⟨s.heap.objs.size, [], [], C.slots.filterMap fun p => if p.2 = .fr then fd.closure.lookup p.1 else none⟩) I hn gr ⟨_, _, rfl⟩ (T.w R), r.sub fun b m => mem_z m⟩
end
end Mine
namespace Mine
variable {G : Stat} {H : MH} {K : MV → Prop} {B : Bool → Prop} {N : MH → Prop} {Q : MV → MH → Prop} {d : Nat} {C : Ctx} {l : Loc} {x y z : Int} {s t : Str} {a : Addr} {xs ys : List MV} {v w : MV} {mu : Bool}
theorem e9 {α : Type} {a : α} {l : List α} : (a :: l)[0]? = some a := rfl
theorem ee {α : Type} {a : α} {l : List α} {n : Nat} : (a :: l)[n + 1]? = l[n]? := rfl
theorem ew {α : Type} {a b : α} {l : List α} : (a :: l).set 0 b = b :: l := rfl
theorem f0 {α : Type} {a b : α} {l : List α} {n : Nat} : (a :: l).set (n + 1) b = a :: l.set n b := rfl
theorem f8 {α : Type} {a : α} : Option.isSome (some a) = true := rfl
theorem f9 {p : Prop} : (p ∧ True) = p := and_true p
theorem fb {p : Prop} : (True ∧ p) = p := true_and p
theorem fe : mtT .bitLength v H = (v.isInt = true) := rfl
theorem ff : mtT .append v H = ((itemsOf H v).isSome = true) := rfl
theorem fg : mtT .reverse v H = ((itemsOf H v).isSome = true) := rfl
theorem fh : mtT .count v H = ((itemsOf H v).isSome = true) := rfl
theorem fi : mtT .split v H = (v.isStr = true) := rfl
theorem fj : mtT .startswith v H = (v.isStr = true) := rfl
theorem fk : mtT .endswith v H = (v.isStr = true) := rfl
theorem fo : mtT .find v H = (v.isStr = true) := rfl
theorem fq : mtT .lower v H = (v.isStr = true) := rfl
theorem fs : mtT .join v H = (v.isStr = true) := rfl
theorem ft : MV.isStr (.str s) = true := rfl
theorem fu : MV.isInt (.int x) = true := rfl
theorem fw : itemsOf H (.list xs) = some xs := rfl
theorem fx : itemsOf H (.ref a) = H.lookup a := rfl
theorem da : binW .Add (.int x) (.int y) K = K (.int (x + y)) := rfl
theorem fy : binW .Sub (.int x) (.int y) K = K (.int (x - y)) := rfl
theorem db : binW .Mult (.int x) (.int y) K = ((Builtin.Int.intBits x + Builtin.Int.intBits y ≤ 2 ^ 27) ∧ K (.int (x * y))) := rfl
theorem g0 : binW .FloorDiv (.int x) (.int y) K = ((y ≠ 0 ∧ Builtin.divisionGoesByPylong x y = false) ∧ K (.int (x.fdiv y))) := rfl
theorem ge : binW .Mod (.int x) (.int y) K = ((y ≠ 0) ∧ K (.int (x.fmod y))) := rfl
theorem gf : binW .Pow (.int x) (.int y) K = ((x = 2 ∧ 0 ≤ y ∧ y ≤ 2 ^ 20) ∧ K (.int (2 ^ y.toNat))) := rfl
theorem gg : binW .LShift (.int x) (.int y) K = ((0 ≤ y ∧ (Builtin.Int.intBits x : Int) + y ≤ 2 ^ 27) ∧ K (.int (x * 2 ^ y.toNat))) := rfl
theorem gh : binW .RShift (.int x) (.int y) K = ((0 ≤ y) ∧ K (.int (x / 2 ^ y.toNat))) := rfl
theorem gi : binW .BitAnd (.int x) (.int y) K = K (.int (Builtin.bitAnd x y)) := rfl
theorem gj : binW .BitOr (.int x) (.int y) K = K (.int (Builtin.bitOr x y)) := rfl
theorem gk : binW .BitXor (.int x) (.int y) K = K (.int (Builtin.bitXor x y)) := rfl
theorem gl : binW .Add (.str s) (.str t) K = (s.length + t.length ≤ 2 ^ 20 ∧ K (.str (s ++ t))) := rfl
theorem gm : binW .Add (.list xs) (.list ys) K = (xs.length + ys.length ≤ 2 ^ 20 ∧ K (.list (xs ++ ys))) := rfl
theorem gn : unW .USub (.int x) K = K (.int (-x)) := rfl
theorem gp : unW .Invert (.int x) K = K (.int (-x - 1)) := rfl
theorem gq : cmpW H .Eq (.int x) (.int y) B = B (x == y) := rfl
theorem gs : cmpW H .Eq (.str s) (.str t) B = B (s == t) := rfl
theorem gt : cmpW H .NotEq (.int x) (.int y) B = B (!(x == y)) := rfl
theorem gu : cmpW H .Lt (.int x) (.int y) B = B (decide (x < y)) := rfl
theorem gv {p q : Bool} : cmpW H .Lt (.bool p) (.bool q) B = B (!p && q) := rfl
theorem gw : cmpW H .LtE (.int x) (.int y) B = B (decide (x ≤ y)) := rfl
theorem gx : cmpW H .Gt (.int x) (.int y) B = B (decide (x > y)) := rfl
theorem gy : cmpW H .GtE (.int x) (.int y) B = B (decide (x ≥ y)) := rfl
theorem gz : mtW .lower (.str s) [] mu H Q = (s.length ≤ 2 ^ 20 ∧ Q (.str (Txt.lower s)) H) := rfl
theorem i0 : mtW .bitLength (.int x) [] mu H Q = Q (.int (Builtin.Int.intBits x)) H := rfl
end Mine
namespace Mine
variable {G : Stat} {H : MH} {K : MV → Prop} {B : Bool → Prop} {N : MH → Prop} {L : List MV → MH → Prop} {M : List MV → Prop} {Q : MV → MH → Prop} {d : Nat} {C : Ctx} {l : Loc} {x y z i j k : Int} {s t : Str} {a : Addr} {xs ys : List MV} {v w : MV} {mu : Bool}
theorem optE {α : Type} {o : Option α} {p : α} {K : α → Prop} (h : o = some p) : optW o K = K p := by rw [h]; rfl
theorem lkE {o : Option (List MV)} {p : List MV} {K : List MV → Prop} (h : o = some p) : lkW o K = K p := by rw [h]; rfl
theorem orE {α : Type} {o : Option α} {p : α} {K : α → Prop} {E : Prop} (h : o = some p) : orW o K E = K p := by rw [h]; rfl
theorem i4 : cmpW H .Is .none .none B = B true := rfl
theorem i5 : cmpW H .Is (.int x) .none B = B false := rfl
theorem i6 {n : Nat} {cs : List MV} : cmpW H .Is (.clo n cs) .none B = B false := rfl
theorem zh {u w : List Int} (h1 : allInt xs = some u) (h2 : allInt ys = some w) : cmpW H .Eq (.list xs) (.list ys) B = ((xs.length ≤ 2 ^ 20 ∧ ys.length ≤ 2 ^ 20) ∧ B (u == w)) := (orE h1).trans (orE h2)
theorem ow {u w : List Int} (h1 : allInt xs = some u) (h2 : allInt ys = some w) : cmpW H .NotEq (.list xs) (.list ys) B = ((xs.length ≤ 2 ^ 20 ∧ ys.length ≤ 2 ^ 20) ∧ B (!(u == w))) := (orE h1).trans (orE h2)
theorem wj {u w : List Bool} (h0 : allInt xs = none) (h1 : allBool xs = some u) (h2 : allBool ys = some w) : cmpW H .Eq (.list xs) (.list ys) B = ((xs.length ≤ 2 ^ 20 ∧ ys.length ≤ 2 ^ 20) ∧ B (u == w)) := by
  show orW (allInt xs) _ (eqL allBool xs ys B False) = _
  rw [h0]; exact (orE h1).trans (orE h2)
theorem i8 : cmpW H .In (.str s) (.str t) B = B (Txt.contains t s) := rfl
theorem i9 : cmpW H .NotIn (.str s) (.str t) B = B (!Txt.contains t s) := rfl
theorem wm {u : List Str} (h : allStr ys = some u) : cmpW H .In (.str s) (.list ys) B = (ys.length ≤ 2 ^ 20 ∧ B (u.contains s)) := optE h
theorem zi {u : List Int} (h : allInt ys = some u) : cmpW H .In (.int x) (.list ys) B = (ys.length ≤ 2 ^ 20 ∧ B (u.contains x)) := optE h
theorem wo {u : List Int} (h : allInt ys = some u) : cmpW H .NotIn (.int x) (.list ys) B = (ys.length ≤ 2 ^ 20 ∧ B (!u.contains x)) := optE h
theorem wp {u : List Int} (h0 : H.lookup a = some ys) (h : allInt ys = some u) : cmpW H .NotIn (.int x) (.ref a) B = (ys.length ≤ 2 ^ 20 ∧ B (!u.contains x)) := (optE h0).trans (optE h)
theorem ia {b : Bool} : truW H (.bool b) B = B b := rfl
theorem dc : truW H (.int x) B = B (x != 0) := rfl
theorem ax : truW H (.str s) B = (s.length ≤ 2 ^ 20 ∧ B (!(s.length == 0))) := rfl
theorem ie : truW H .none B = B false := rfl
theorem ig : truW H (.list xs) B = (xs.length ≤ 2 ^ 20 ∧ B (!xs.isEmpty)) := rfl
theorem kh {n : Nat} (hp : place xs.length k = some n) (h : xs[n]? = some v) : ixW H (.list xs) (.int k) K = (intOk k ∧ K v) := by
  show (intOk k ∧ optW (place xs.length k) fun j => optW xs[j]? K) = _
  rw [optE hp, optE h]
theorem qe {n : Nat} (h0 : H.lookup a = some xs) (hp : place xs.length k = some n) (h : xs[n]? = some v) : ixW H (.ref a) (.int k) K = (intOk k ∧ K v) := by
  show (intOk k ∧ optW (H.lookup a) fun xs => optW (place xs.length k) fun j => optW xs[j]? K) = _
  rw [optE h0, optE hp, optE h]
theorem ly {n : Nat} {c : Nat} (hp : place s.cps.size k = some n) (h : s.cps[n]? = some c) : ixW H (.str s) (.int k) K = (intOk k ∧ K (.str ⟨#[c]⟩)) := by
  show (intOk k ∧ optW (place s.cps.size k) fun j => optW s.cps[j]? fun c => K (.str ⟨#[c]⟩)) = _
  rw [optE hp, optE h]
theorem ii : slW H (.str s) (.int x) .none K = (s.length ≤ 2 ^ 20 ∧ K (.str ⟨(sliceL s.cps.toList (some x) none).toArray⟩)) := rfl
theorem de : slW H (.str s) .none (.int x) K = (s.length ≤ 2 ^ 20 ∧ K (.str ⟨(sliceL s.cps.toList none (some x)).toArray⟩)) := rfl
theorem dg : slW H (.str s) .none .none K = (s.length ≤ 2 ^ 20 ∧ K (.str ⟨(sliceL s.cps.toList none none).toArray⟩)) := rfl
theorem ij : slW H (.list xs) (.int x) .none K = (xs.length ≤ 2 ^ 20 ∧ K (.list (sliceL xs (some x) none))) := rfl
theorem ik : slW H (.list xs) .none (.int x) K = (xs.length ≤ 2 ^ 20 ∧ K (.list (sliceL xs none (some x)))) := rfl
theorem il : slW H (.list xs) (.int x) (.int y) K = (xs.length ≤ 2 ^ 20 ∧ K (.list (sliceL xs (some x) (some y)))) := rfl
theorem wq (h0 : H.lookup a = some xs) : slW H (.ref a) (.int x) .none K = (xs.length ≤ 2 ^ 20 ∧ K (.list (sliceL xs (some x) none))) := optE h0
theorem qr (h0 : H.lookup a = some xs) : setW H (.ref a) (.int k) v N = ((0 ≤ k ∧ k < xs.length ∧ xs.length ≤ 2 ^ 20) ∧ N (setH H a (xs.set k.toNat v))) := lkE h0
theorem s7 {n : Nat} (h0 : H.lookup a = some xs) (hp : place xs.length k = some n) : delW H (.ref a) (.int k) N = (intOk k ∧ xs.length ≤ 2 ^ 20 ∧ N (setH H a (xs.eraseIdx n))) := (lkE h0).trans (congrArg (And (intOk k)) (optE hp))
theorem im : biW .len [.str s] H K = (s.length ≤ 2 ^ 20 ∧ K (.int s.length)) := rfl
theorem ip : biW .len [.list xs] H K = (xs.length ≤ 2 ^ 20 ∧ K (.int xs.length)) := rfl
theorem qt (h0 : H.lookup a = some xs) : biW .len [.ref a] H K = (xs.length ≤ 2 ^ 20 ∧ K (.int xs.length)) := optE h0
theorem iq : biW .divmod [.int x, .int y] H K = ((y ≠ 0 ∧ Builtin.divisionGoesByPylong x y = false) ∧ K (.tup [.int (x.fdiv y), .int (x.fmod y)])) := rfl
theorem ir : biW .min [.int x, .int y] H K = K (.int (min x y)) := rfl
theorem iu : biW .min [.int x, .int y, .int z] H K = K (.int (min (min x y) z)) := rfl
theorem wr {u : List Int} (h : allInt xs = some u) : biW .sum [.list xs] H K = K (.int u.sum) := optE h
theorem qv (h0 : H.lookup a = some xs) : mtW .append (.ref a) [v] mu H Q = (xs.length ≤ 2 ^ 20 ∧ Q .none (setH H a (xs ++ [v]))) := lkE h0
theorem wu (h0 : H.lookup a = some xs) : mtW .reverse (.ref a) [] mu H Q = (xs.length ≤ 2 ^ 20 ∧ Q .none (setH H a xs.reverse)) := lkE h0
theorem wv {u : List Int} (h0 : H.lookup a = some xs) (h : allInt xs = some u) : mtW .count (.ref a) [.int x] mu H Q = (xs.length ≤ 2 ^ 20 ∧ Q (.int (u.count x)) H) := (optE h0).trans (optE h)
theorem iv : mtW .startswith (.str s) [.str t] mu H Q = Q (.bool (Txt.startswith s t)) H := rfl
theorem iw : mtW .endswith (.str s) [.str t] mu H Q = Q (.bool (Txt.endswith s t)) H := rfl
theorem iy : mtW .split (.str s) [.str t] mu H Q = ((t.length ≠ 0 ∧ s.length ≤ 2 ^ 20) ∧ newL mu ((Txt.split s t).map .str) H Q) := rfl
theorem ww {u : List Str} (h : allStr ys = some u) : mtW .join (.str s) [.list ys] mu H Q = (JoinOk s u = true ∧ Q (.str (Txt.join s u)) H) := optE h
theorem j0 : mtW .find (.str s) [.str t, .int i, .int j] mu H Q = ((0 ≤ i ∧ 0 ≤ j ∧ j ≤ s.length) ∧
      Q (.int (match Builtin.Str.occurrences s t i.toNat j.toNat 1 with | k :: _ => (k : Int) | [] => -1)) H) := rfl
theorem j3 : newL true xs H Q = ∀ a, a ∉ keys H → Q (.ref a) ((a, xs) :: H) := rfl
theorem j4 : newL false xs H Q = Q (.list xs) H := rfl
theorem j5 : rngW [.int x] M = ((intOk x) ∧ M (rangeL 0 x 1)) := rfl
theorem j6 : rngW [.int x, .int y, .int z] M = ((intOk x ∧ intOk y ∧ 0 < z ∧ z < 2 ^ 20) ∧ M (rangeL x y z)) := rfl
theorem dh : itW H (.list xs) L = (xs.length ≤ 2 ^ 20 ∧ L xs H) := rfl
theorem j7 : itW H (.str s) L = (s.length ≤ 2 ^ 20 ∧ L (signs s) H) := rfl
theorem wx (h0 : H.lookup a = some xs) : itW H (.ref a) L = (xs.length ≤ 2 ^ 20 ∧ L xs (delH H a)) := optE h0
theorem j8 : augW .Add (.int x) (.int y) K = K (.int (x + y)) := rfl
theorem j9 : augW .Sub (.int x) (.int y) K = K (.int (x - y)) := rfl
theorem ja : augW .LShift (.int x) (.int y) K = ((0 ≤ y ∧ (Builtin.Int.intBits x : Int) + y ≤ 2 ^ 27) ∧ K (.int (x * 2 ^ y.toNat))) := rfl
theorem jb : augW .RShift (.int x) (.int y) K = ((0 ≤ y) ∧ K (.int (x / 2 ^ y.toNat))) := rfl
theorem h_look : ((a, xs) :: H : MH).lookup a = some xs := by rw [List.lookup_cons, beq_self_eq_true]
theorem h_set (h : a ∉ keys H) : setH ((a, xs) :: H) a ys = (a, ys) :: H := by
  unfold setH
  rw [List.map_cons, if_pos rfl]
  congr 1
  have : ∀ p ∈ H, (if p.1 = a then (a, ys) else p) = p := fun p hp => if_neg fun e => h (by have := List.mem_map_of_mem (f := fun p : Addr × List MV => p.1) hp; rw [e] at this; exact this)
  rw [List.map_congr_left this, List.map_id']
theorem h_del (h : a ∉ keys H) : delH ((a, xs) :: H) a = H := by
  unfold delH
  rw [List.filter_cons]
  simp only [ne_eq, not_true_eq_false, decide_false]
  refine List.filter_eq_self.mpr fun p hp => ?_
  have : p.1 ≠ a := fun e => h (by have := List.mem_map_of_mem (f := fun p : Addr × List MV => p.1) hp; rw [e] at this; exact this)
  simpa using this
theorem allInt_map (l : List Int) : allInt (l.map .int) = some l := by
  induction l with
  | nil => rfl
  | cons a r ih => rw [List.map_cons, allInt, ih]; rfl
theorem allStr_map (l : List Str) : allStr (l.map .str) = some l := by
  induction l with
  | nil => rfl
  | cons a r ih => rw [List.map_cons, allStr, ih]; rfl
theorem allBool_map (l : List Bool) : allBool (l.map .bool) = some l := by
  induction l with
  | nil => rfl
  | cons a r ih => rw [List.map_cons, allBool, ih]; rfl
theorem place_nat {n i : Nat} (h : i < n) : place n (i : Int) = some i := by
  unfold place; rw [if_pos (Int.natCast_nonneg i), if_pos (by lia)]; rfl
theorem place_neg {n i : Nat} (h : i < n) : place n (-(i : Int) - 1) = some (n - 1 - i) := by
  unfold place; rw [if_neg (by lia), if_pos (by lia)]; congr 1; lia
theorem intOk_nat {n : Nat} (h : n ≤ 2 ^ 40) : intOk (n : Int) := by
  unfold intOk; lia
theorem intOk_of {n : Int} (h : -(2 ^ 40) ≤ n) (h' : n ≤ 2 ^ 40) : intOk n := by
  unfold intOk; lia
theorem rangeL_nat (n : Nat) : rangeL 0 (n : Int) 1 = (List.range n).map fun (k : Nat) => MV.int (k : Int) := by
  have : (Builtin.Range.rangeSize 0 (n : Int) 1).toNat = n := by
    simp only [Builtin.Range.rangeSize]
    split <;> rename_i h <;> simp at h ⊢ <;> lia
  unfold rangeL
  rw [this]
  refine List.map_congr_left fun k _ => ?_
  congr 1; lia
end Mine
namespace Mine
noncomputable def ll : Ctx := { slots := [("a", .loc), ("x", .loc), ("lo", .loc), ("hi", .loc), ("key", .loc), ("mid", .loc)], globs := ["ValueError", "len"], code := none, qual := "bisect_right.<locals>." }
noncomputable def b21 : MSs := .cons
  (.ret (.v 2 ⟨21, 11, 21, 13⟩) ⟨21, 4, 21, 13⟩) .nil
noncomputable def b11 : MSs := .cons
  (.asg 3 ⟨11, 16, 11, 18⟩ (.v 5 ⟨11, 21, 11, 24⟩) ⟨11, 16, 11, 24⟩) .nil
noncomputable def b13 : MSs := .cons
  (.asg 2 ⟨13, 16, 13, 18⟩ (.bin .Add (.v 5 ⟨13, 21, 13, 24⟩) (.ci 1 ⟨13, 27, 13, 28⟩) ⟨13, 21, 13, 28⟩) ⟨13, 16, 13, 28⟩) .nil
noncomputable def b10 : MSs := .cons
  (.ifs (.cmp .Lt (.v 1 ⟨10, 15, 10, 16⟩) (.ix (.v 0 ⟨10, 19, 10, 20⟩) (.v 5 ⟨10, 21, 10, 24⟩) ⟨10, 19, 10, 25⟩) ⟨10, 15, 10, 25⟩) b11 b13 ⟨10, 12, 13, 28⟩) .nil
noncomputable def b9 : MSs := .cons
  (.asg 5 ⟨9, 12, 9, 15⟩ (.bin .FloorDiv (.bin .Add (.v 2 ⟨9, 19, 9, 21⟩) (.v 3 ⟨9, 24, 9, 26⟩) ⟨9, 19, 9, 26⟩) (.ci 2 ⟨9, 31, 9, 32⟩) ⟨9, 18, 9, 32⟩) ⟨9, 12, 9, 32⟩) b10
noncomputable def b8 : MSs := .cons
  (.whl (.cmp .Lt (.v 2 ⟨8, 14, 8, 16⟩) (.v 3 ⟨8, 19, 8, 21⟩) ⟨8, 14, 8, 21⟩) b9 ⟨8, 8, 13, 28⟩) .nil
noncomputable def b18 : MSs := .cons
  (.asg 3 ⟨18, 16, 18, 18⟩ (.v 5 ⟨18, 21, 18, 24⟩) ⟨18, 16, 18, 24⟩) .nil
noncomputable def b20 : MSs := .cons
  (.asg 2 ⟨20, 16, 20, 18⟩ (.bin .Add (.v 5 ⟨20, 21, 20, 24⟩) (.ci 1 ⟨20, 27, 20, 28⟩) ⟨20, 21, 20, 28⟩) ⟨20, 16, 20, 28⟩) .nil
noncomputable def b17 : MSs := .cons
  (.ifs (.cmp .Lt (.v 1 ⟨17, 15, 17, 16⟩) (.cv 4 ⟨17, 19, 17, 22⟩ (.cons (.ix (.v 0 ⟨17, 23, 17, 24⟩) (.v 5 ⟨17, 25, 17, 28⟩) ⟨17, 23, 17, 29⟩) .nil) ⟨17, 19, 17, 30⟩) ⟨17, 15, 17, 30⟩) b18 b20 ⟨17, 12, 20, 28⟩) .nil
noncomputable def b16 : MSs := .cons
  (.asg 5 ⟨16, 12, 16, 15⟩ (.bin .FloorDiv (.bin .Add (.v 2 ⟨16, 19, 16, 21⟩) (.v 3 ⟨16, 24, 16, 26⟩) ⟨16, 19, 16, 26⟩) (.ci 2 ⟨16, 31, 16, 32⟩) ⟨16, 18, 16, 32⟩) ⟨16, 12, 16, 32⟩) b17
noncomputable def b15 : MSs := .cons
  (.whl (.cmp .Lt (.v 2 ⟨15, 14, 15, 16⟩) (.v 3 ⟨15, 19, 15, 21⟩) ⟨15, 14, 15, 21⟩) b16 ⟨15, 8, 20, 28⟩) .nil
noncomputable def b7 : MSs := .cons
  (.ifs (.cmp .Is (.v 4 ⟨7, 7, 7, 10⟩) (.cn ⟨7, 14, 7, 18⟩) ⟨7, 7, 7, 18⟩) b8 b15 ⟨7, 4, 20, 28⟩) b21
noncomputable def b6 : MSs := .cons
  (.asg 3 ⟨6, 8, 6, 10⟩ (.bi .len ⟨6, 13, 6, 16⟩ (.cons (.v 0 ⟨6, 17, 6, 18⟩) .nil) ⟨6, 13, 6, 19⟩) ⟨6, 8, 6, 19⟩) .nil
noncomputable def b5 : MSs := .cons
  (.ifs (.cmp .Is (.v 3 ⟨5, 7, 5, 9⟩) (.cn ⟨5, 13, 5, 17⟩) ⟨5, 7, 5, 17⟩) b6 .nil ⟨5, 4, 6, 19⟩) b7
noncomputable def b4 : MSs := .cons
  (.rse (PySem.Stmt.Raise
                    (exc := (some
                      (PySem.Expr.Call
                        (func := (PySem.Expr.Name "ValueError" ⟨4, 14, 4, 24⟩))
                        (args := [(PySem.Expr.Constant (PySem.Const.str "lo must be non-negative") 0 ⟨4, 25, 4, 50⟩)])
                        (keywords := [])
                        (pos := ⟨4, 14, 4, 51⟩))))
                    (cause := none)
                    (pos := ⟨4, 8, 4, 51⟩))) .nil
noncomputable def b3 : MSs := .cons
  (.ifs (.cmp .Lt (.v 2 ⟨3, 7, 3, 9⟩) (.ci 0 ⟨3, 12, 3, 13⟩) ⟨3, 7, 3, 13⟩) b4 .nil ⟨3, 4, 4, 51⟩) b5
noncomputable def oq : MSs := b3
noncomputable def ar_bisect_right : Arguments := {
              posonlyargs := [],
              args := [
                { arg := "a", annotation := none, pos := ⟨2, 17, 2, 18⟩ : PySem.Arg },
                { arg := "x", annotation := none, pos := ⟨2, 20, 2, 21⟩ : PySem.Arg },
                { arg := "lo", annotation := none, pos := ⟨2, 23, 2, 25⟩ : PySem.Arg },
                { arg := "hi", annotation := none, pos := ⟨2, 29, 2, 31⟩ : PySem.Arg }],
              vararg := none,
              kwonlyargs := [{ arg := "key", annotation := none, pos := ⟨2, 41, 2, 44⟩ : PySem.Arg }],
              kw_defaults := [(some (PySem.Expr.Constant PySem.Const.none 0 ⟨2, 45, 2, 49⟩))],
              kwarg := none,
              defaults := [
                (PySem.Expr.Constant (PySem.Const.int 0) 0 ⟨2, 26, 2, 27⟩),
                (PySem.Expr.Constant PySem.Const.none 0 ⟨2, 32, 2, 36⟩)] : PySem.Arguments }
noncomputable def kl : Ctx := { slots := [("a", .loc), ("x", .loc), ("lo", .loc), ("hi", .loc), ("key", .loc), ("mid", .loc)], globs := ["ValueError", "len"], code := none, qual := "bisect_left.<locals>." }
noncomputable def b41 : MSs := .cons
  (.ret (.v 2 ⟨41, 11, 41, 13⟩) ⟨41, 4, 41, 13⟩) .nil
noncomputable def b31 : MSs := .cons
  (.asg 2 ⟨31, 16, 31, 18⟩ (.bin .Add (.v 5 ⟨31, 21, 31, 24⟩) (.ci 1 ⟨31, 27, 31, 28⟩) ⟨31, 21, 31, 28⟩) ⟨31, 16, 31, 28⟩) .nil
noncomputable def b33 : MSs := .cons
  (.asg 3 ⟨33, 16, 33, 18⟩ (.v 5 ⟨33, 21, 33, 24⟩) ⟨33, 16, 33, 24⟩) .nil
noncomputable def b30 : MSs := .cons
  (.ifs (.cmp .Lt (.ix (.v 0 ⟨30, 15, 30, 16⟩) (.v 5 ⟨30, 17, 30, 20⟩) ⟨30, 15, 30, 21⟩) (.v 1 ⟨30, 24, 30, 25⟩) ⟨30, 15, 30, 25⟩) b31 b33 ⟨30, 12, 33, 24⟩) .nil
noncomputable def b29 : MSs := .cons
  (.asg 5 ⟨29, 12, 29, 15⟩ (.bin .FloorDiv (.bin .Add (.v 2 ⟨29, 19, 29, 21⟩) (.v 3 ⟨29, 24, 29, 26⟩) ⟨29, 19, 29, 26⟩) (.ci 2 ⟨29, 31, 29, 32⟩) ⟨29, 18, 29, 32⟩) ⟨29, 12, 29, 32⟩) b30
noncomputable def b28 : MSs := .cons
  (.whl (.cmp .Lt (.v 2 ⟨28, 14, 28, 16⟩) (.v 3 ⟨28, 19, 28, 21⟩) ⟨28, 14, 28, 21⟩) b29 ⟨28, 8, 33, 24⟩) .nil
noncomputable def b38 : MSs := .cons
  (.asg 2 ⟨38, 16, 38, 18⟩ (.bin .Add (.v 5 ⟨38, 21, 38, 24⟩) (.ci 1 ⟨38, 27, 38, 28⟩) ⟨38, 21, 38, 28⟩) ⟨38, 16, 38, 28⟩) .nil
noncomputable def b40 : MSs := .cons
  (.asg 3 ⟨40, 16, 40, 18⟩ (.v 5 ⟨40, 21, 40, 24⟩) ⟨40, 16, 40, 24⟩) .nil
noncomputable def b37 : MSs := .cons
  (.ifs (.cmp .Lt (.cv 4 ⟨37, 15, 37, 18⟩ (.cons (.ix (.v 0 ⟨37, 19, 37, 20⟩) (.v 5 ⟨37, 21, 37, 24⟩) ⟨37, 19, 37, 25⟩) .nil) ⟨37, 15, 37, 26⟩) (.v 1 ⟨37, 29, 37, 30⟩) ⟨37, 15, 37, 30⟩) b38 b40 ⟨37, 12, 40, 24⟩) .nil
noncomputable def b36 : MSs := .cons
  (.asg 5 ⟨36, 12, 36, 15⟩ (.bin .FloorDiv (.bin .Add (.v 2 ⟨36, 19, 36, 21⟩) (.v 3 ⟨36, 24, 36, 26⟩) ⟨36, 19, 36, 26⟩) (.ci 2 ⟨36, 31, 36, 32⟩) ⟨36, 18, 36, 32⟩) ⟨36, 12, 36, 32⟩) b37
noncomputable def b35 : MSs := .cons
  (.whl (.cmp .Lt (.v 2 ⟨35, 14, 35, 16⟩) (.v 3 ⟨35, 19, 35, 21⟩) ⟨35, 14, 35, 21⟩) b36 ⟨35, 8, 40, 24⟩) .nil
noncomputable def b27 : MSs := .cons
  (.ifs (.cmp .Is (.v 4 ⟨27, 7, 27, 10⟩) (.cn ⟨27, 14, 27, 18⟩) ⟨27, 7, 27, 18⟩) b28 b35 ⟨27, 4, 40, 24⟩) b41
noncomputable def b26 : MSs := .cons
  (.asg 3 ⟨26, 8, 26, 10⟩ (.bi .len ⟨26, 13, 26, 16⟩ (.cons (.v 0 ⟨26, 17, 26, 18⟩) .nil) ⟨26, 13, 26, 19⟩) ⟨26, 8, 26, 19⟩) .nil
noncomputable def b25 : MSs := .cons
  (.ifs (.cmp .Is (.v 3 ⟨25, 7, 25, 9⟩) (.cn ⟨25, 13, 25, 17⟩) ⟨25, 7, 25, 17⟩) b26 .nil ⟨25, 4, 26, 19⟩) b27
noncomputable def b24 : MSs := .cons
  (.rse (PySem.Stmt.Raise
                    (exc := (some
                      (PySem.Expr.Call
                        (func := (PySem.Expr.Name "ValueError" ⟨24, 14, 24, 24⟩))
                        (args := [(PySem.Expr.Constant (PySem.Const.str "lo must be non-negative") 0 ⟨24, 25, 24, 50⟩)])
                        (keywords := [])
                        (pos := ⟨24, 14, 24, 51⟩))))
                    (cause := none)
                    (pos := ⟨24, 8, 24, 51⟩))) .nil
noncomputable def b23 : MSs := .cons
  (.ifs (.cmp .Lt (.v 2 ⟨23, 7, 23, 9⟩) (.ci 0 ⟨23, 12, 23, 13⟩) ⟨23, 7, 23, 13⟩) b24 .nil ⟨23, 4, 24, 51⟩) b25
noncomputable def nv : MSs := b23
noncomputable def ar_bisect_left : Arguments := {
              posonlyargs := [],
              args := [
                { arg := "a", annotation := none, pos := ⟨22, 16, 22, 17⟩ : PySem.Arg },
                { arg := "x", annotation := none, pos := ⟨22, 19, 22, 20⟩ : PySem.Arg },
                { arg := "lo", annotation := none, pos := ⟨22, 22, 22, 24⟩ : PySem.Arg },
                { arg := "hi", annotation := none, pos := ⟨22, 28, 22, 30⟩ : PySem.Arg }],
              vararg := none,
              kwonlyargs := [{ arg := "key", annotation := none, pos := ⟨22, 40, 22, 43⟩ : PySem.Arg }],
              kw_defaults := [(some (PySem.Expr.Constant PySem.Const.none 0 ⟨22, 44, 22, 48⟩))],
              kwarg := none,
              defaults := [
                (PySem.Expr.Constant (PySem.Const.int 0) 0 ⟨22, 25, 22, 26⟩),
                (PySem.Expr.Constant PySem.Const.none 0 ⟨22, 31, 22, 35⟩)] : PySem.Arguments }
noncomputable def kj : Ctx := { slots := [("a", .loc), ("b", .loc), ("n", .loc), ("pad", .loc), ("half_n", .loc), ("mask", .loc), ("b1", .loc), ("b2", .loc), ("q1", .loc), ("r", .loc), ("q2", .loc)], globs := ["_DIV_LIMIT", "divmod", "_div3n2n"], code := none, qual := "_div2n1n.<locals>." }
noncomputable def b59 : MSs := .cons
  (.ret (.tp (.cons (.bin .BitOr (.bin .LShift (.v 8 ⟨59, 12, 59, 14⟩) (.v 4 ⟨59, 18, 59, 24⟩) ⟨59, 12, 59, 24⟩) (.v 10 ⟨59, 27, 59, 29⟩) ⟨59, 12, 59, 29⟩) (.cons (.v 9 ⟨59, 31, 59, 32⟩) .nil)) ⟨59, 11, 59, 33⟩) ⟨59, 4, 59, 33⟩) .nil
noncomputable def b58 : MSs := .cons
  (.aug 9 ⟨58, 8, 58, 9⟩ .RShift (.ci 1 ⟨58, 14, 58, 15⟩) ⟨58, 8, 58, 15⟩) .nil
noncomputable def b57 : MSs := .cons
  (.ifs (.v 3 ⟨57, 7, 57, 10⟩) b58 .nil ⟨57, 4, 58, 15⟩) b59
noncomputable def b56 : MSs := .cons
  (.unp 10 ⟨56, 4, 56, 6⟩ 9 ⟨56, 8, 56, 9⟩ (.cg "_div3n2n" 46 ⟨56, 12, 56, 20⟩ (.cons (.v 9 ⟨56, 21, 56, 22⟩) (.cons (.bin .BitAnd (.v 0 ⟨56, 24, 56, 25⟩) (.v 5 ⟨56, 28, 56, 32⟩) ⟨56, 24, 56, 32⟩) (.cons (.v 1 ⟨56, 34, 56, 35⟩) (.cons (.v 6 ⟨56, 37, 56, 39⟩) (.cons (.v 7 ⟨56, 41, 56, 43⟩) (.cons (.v 4 ⟨56, 45, 56, 51⟩) .nil)))))) ⟨56, 12, 56, 52⟩) ⟨56, 4, 56, 9⟩ ⟨56, 4, 56, 52⟩) b57
noncomputable def b55 : MSs := .cons
  (.unp 8 ⟨55, 4, 55, 6⟩ 9 ⟨55, 8, 55, 9⟩ (.cg "_div3n2n" 46 ⟨55, 12, 55, 20⟩ (.cons (.bin .RShift (.v 0 ⟨55, 21, 55, 22⟩) (.v 2 ⟨55, 26, 55, 27⟩) ⟨55, 21, 55, 27⟩) (.cons (.bin .BitAnd (.bin .RShift (.v 0 ⟨55, 29, 55, 30⟩) (.v 4 ⟨55, 34, 55, 40⟩) ⟨55, 29, 55, 40⟩) (.v 5 ⟨55, 43, 55, 47⟩) ⟨55, 29, 55, 47⟩) (.cons (.v 1 ⟨55, 49, 55, 50⟩) (.cons (.v 6 ⟨55, 52, 55, 54⟩) (.cons (.v 7 ⟨55, 56, 55, 58⟩) (.cons (.v 4 ⟨55, 60, 55, 66⟩) .nil)))))) ⟨55, 12, 55, 67⟩) ⟨55, 4, 55, 9⟩ ⟨55, 4, 55, 67⟩) b56
noncomputable def b54 : MSs := .cons
  (.swp 6 ⟨54, 4, 54, 6⟩ 7 ⟨54, 8, 54, 10⟩ (.bin .RShift (.v 1 ⟨54, 14, 54, 15⟩) (.v 4 ⟨54, 19, 54, 25⟩) ⟨54, 14, 54, 25⟩) (.bin .BitAnd (.v 1 ⟨54, 27, 54, 28⟩) (.v 5 ⟨54, 31, 54, 35⟩) ⟨54, 27, 54, 35⟩) ⟨54, 4, 54, 10⟩ ⟨54, 13, 54, 36⟩ ⟨54, 4, 54, 36⟩) b55
noncomputable def b53 : MSs := .cons
  (.asg 5 ⟨53, 4, 53, 8⟩ (.bin .Sub (.bin .LShift (.ci 1 ⟨53, 12, 53, 13⟩) (.v 4 ⟨53, 17, 53, 23⟩) ⟨53, 12, 53, 23⟩) (.ci 1 ⟨53, 27, 53, 28⟩) ⟨53, 11, 53, 28⟩) ⟨53, 4, 53, 28⟩) b54
noncomputable def b52 : MSs := .cons
  (.asg 4 ⟨52, 4, 52, 10⟩ (.bin .RShift (.v 2 ⟨52, 13, 52, 14⟩) (.ci 1 ⟨52, 18, 52, 19⟩) ⟨52, 13, 52, 19⟩) ⟨52, 4, 52, 19⟩) b53
noncomputable def b51 : MSs := .cons
  (.aug 2 ⟨51, 8, 51, 9⟩ .Add (.ci 1 ⟨51, 13, 51, 14⟩) ⟨51, 8, 51, 14⟩) .nil
noncomputable def b50 : MSs := .cons
  (.aug 1 ⟨50, 8, 50, 9⟩ .LShift (.ci 1 ⟨50, 14, 50, 15⟩) ⟨50, 8, 50, 15⟩) b51
noncomputable def b49 : MSs := .cons
  (.aug 0 ⟨49, 8, 49, 9⟩ .LShift (.ci 1 ⟨49, 14, 49, 15⟩) ⟨49, 8, 49, 15⟩) b50
noncomputable def b48 : MSs := .cons
  (.ifs (.v 3 ⟨48, 7, 48, 10⟩) b49 .nil ⟨48, 4, 51, 14⟩) b52
noncomputable def b47 : MSs := .cons
  (.asg 3 ⟨47, 4, 47, 7⟩ (.bin .BitAnd (.v 2 ⟨47, 10, 47, 11⟩) (.ci 1 ⟨47, 14, 47, 15⟩) ⟨47, 10, 47, 15⟩) ⟨47, 4, 47, 15⟩) b48
noncomputable def b46 : MSs := .cons
  (.ret (.bi .divmod ⟨46, 15, 46, 21⟩ (.cons (.v 0 ⟨46, 22, 46, 23⟩) (.cons (.v 1 ⟨46, 25, 46, 26⟩) .nil)) ⟨46, 15, 46, 27⟩) ⟨46, 8, 46, 27⟩) .nil
noncomputable def b45 : MSs := .cons
  (.ifs (.cmp .LtE (.bin .Sub (.mt (.v 0 ⟨45, 7, 45, 8⟩) .bitLength ⟨45, 7, 45, 19⟩ .nil false ⟨45, 7, 45, 21⟩) (.v 2 ⟨45, 24, 45, 25⟩) ⟨45, 7, 45, 25⟩) (.gc "_DIV_LIMIT" (.int 4000) ⟨45, 29, 45, 39⟩) ⟨45, 7, 45, 39⟩) b46 .nil ⟨45, 4, 46, 27⟩) b47
noncomputable def ot : MSs := b45
noncomputable def ar__div2n1n : Arguments := {
              posonlyargs := [],
              args := [
                { arg := "a", annotation := none, pos := ⟨44, 13, 44, 14⟩ : PySem.Arg },
                { arg := "b", annotation := none, pos := ⟨44, 16, 44, 17⟩ : PySem.Arg },
                { arg := "n", annotation := none, pos := ⟨44, 19, 44, 20⟩ : PySem.Arg }],
              vararg := none,
              kwonlyargs := [],
              kw_defaults := [],
              kwarg := none,
              defaults := [] : PySem.Arguments }
noncomputable def lp : Ctx := { slots := [("a12", .loc), ("a3", .loc), ("b", .loc), ("b1", .loc), ("b2", .loc), ("n", .loc), ("q", .loc), ("r", .loc)], globs := ["_div2n1n"], code := none, qual := "_div3n2n.<locals>." }
noncomputable def b69 : MSs := .cons
  (.ret (.tp (.cons (.v 6 ⟨69, 12, 69, 13⟩) (.cons (.v 7 ⟨69, 15, 69, 16⟩) .nil)) ⟨69, 11, 69, 17⟩) ⟨69, 4, 69, 17⟩) .nil
noncomputable def b68 : MSs := .cons
  (.aug 7 ⟨68, 8, 68, 9⟩ .Add (.v 2 ⟨68, 13, 68, 14⟩) ⟨68, 8, 68, 14⟩) .nil
noncomputable def b67 : MSs := .cons
  (.aug 6 ⟨67, 8, 67, 9⟩ .Sub (.ci 1 ⟨67, 13, 67, 14⟩) ⟨67, 8, 67, 14⟩) b68
noncomputable def b66 : MSs := .cons
  (.whl (.cmp .Lt (.v 7 ⟨66, 10, 66, 11⟩) (.ci 0 ⟨66, 14, 66, 15⟩) ⟨66, 10, 66, 15⟩) b67 ⟨66, 4, 68, 14⟩) b69
noncomputable def b65 : MSs := .cons
  (.asg 7 ⟨65, 4, 65, 5⟩ (.bin .Sub (.bin .BitOr (.bin .LShift (.v 7 ⟨65, 9, 65, 10⟩) (.v 5 ⟨65, 14, 65, 15⟩) ⟨65, 9, 65, 15⟩) (.v 1 ⟨65, 18, 65, 20⟩) ⟨65, 9, 65, 20⟩) (.bin .Mult (.v 6 ⟨65, 24, 65, 25⟩) (.v 4 ⟨65, 28, 65, 30⟩) ⟨65, 24, 65, 30⟩) ⟨65, 8, 65, 30⟩) ⟨65, 4, 65, 30⟩) b66
noncomputable def b62 : MSs := .cons
  (.swp 6 ⟨62, 8, 62, 9⟩ 7 ⟨62, 11, 62, 12⟩ (.bin .Sub (.bin .LShift (.ci 1 ⟨62, 17, 62, 18⟩) (.v 5 ⟨62, 22, 62, 23⟩) ⟨62, 17, 62, 23⟩) (.ci 1 ⟨62, 27, 62, 28⟩) ⟨62, 16, 62, 28⟩) (.bin .Add (.bin .Sub (.v 0 ⟨62, 30, 62, 33⟩) (.bin .LShift (.v 3 ⟨62, 37, 62, 39⟩) (.v 5 ⟨62, 43, 62, 44⟩) ⟨62, 37, 62, 44⟩) ⟨62, 30, 62, 45⟩) (.v 3 ⟨62, 48, 62, 50⟩) ⟨62, 30, 62, 50⟩) ⟨62, 8, 62, 12⟩ ⟨62, 15, 62, 51⟩ ⟨62, 8, 62, 51⟩) .nil
noncomputable def b64 : MSs := .cons
  (.unp 6 ⟨64, 8, 64, 9⟩ 7 ⟨64, 11, 64, 12⟩ (.cg "_div2n1n" 39 ⟨64, 15, 64, 23⟩ (.cons (.v 0 ⟨64, 24, 64, 27⟩) (.cons (.v 3 ⟨64, 29, 64, 31⟩) (.cons (.v 5 ⟨64, 33, 64, 34⟩) .nil))) ⟨64, 15, 64, 35⟩) ⟨64, 8, 64, 12⟩ ⟨64, 8, 64, 35⟩) .nil
noncomputable def b61 : MSs := .cons
  (.ifs (.cmp .Eq (.bin .RShift (.v 0 ⟨61, 7, 61, 10⟩) (.v 5 ⟨61, 14, 61, 15⟩) ⟨61, 7, 61, 15⟩) (.v 3 ⟨61, 19, 61, 21⟩) ⟨61, 7, 61, 21⟩) b62 b64 ⟨61, 4, 64, 35⟩) b65
noncomputable def ox : MSs := b61
noncomputable def ar__div3n2n : Arguments := {
              posonlyargs := [],
              args := [
                { arg := "a12", annotation := none, pos := ⟨60, 13, 60, 16⟩ : PySem.Arg },
                { arg := "a3", annotation := none, pos := ⟨60, 18, 60, 20⟩ : PySem.Arg },
                { arg := "b", annotation := none, pos := ⟨60, 22, 60, 23⟩ : PySem.Arg },
                { arg := "b1", annotation := none, pos := ⟨60, 25, 60, 27⟩ : PySem.Arg },
                { arg := "b2", annotation := none, pos := ⟨60, 29, 60, 31⟩ : PySem.Arg },
                { arg := "n", annotation := none, pos := ⟨60, 33, 60, 34⟩ : PySem.Arg }],
              vararg := none,
              kwonlyargs := [],
              kw_defaults := [],
              kwarg := none,
              defaults := [] : PySem.Arguments }
noncomputable def lz : Ctx := { slots := [("a", .loc), ("n", .cc), ("a_digits", .cc), ("inner", .cc)], globs := ["len"], code := some 52, qual := "_int2digits.<locals>." }
noncomputable def b85 : MSs := .cons
  (.ret (.fz (.v 2 ⟨85, 11, 85, 19⟩)) ⟨85, 4, 85, 19⟩) .nil
noncomputable def b84 : MSs := .cons
  (.exq (.cv 3 ⟨84, 8, 84, 13⟩ (.cons (.v 0 ⟨84, 14, 84, 15⟩) (.cons (.ci 0 ⟨84, 17, 84, 18⟩) (.cons (.bi .len ⟨84, 20, 84, 23⟩ (.cons (.v 2 ⟨84, 24, 84, 32⟩) .nil) ⟨84, 20, 84, 33⟩) .nil))) ⟨84, 8, 84, 34⟩) ⟨84, 8, 84, 34⟩) .nil
noncomputable def b83 : MSs := .cons
  (.ifs (.v 0 ⟨83, 7, 83, 8⟩) b84 .nil ⟨83, 4, 84, 34⟩) b85
noncomputable def mf : Ctx := { slots := [("x", .loc), ("L", .loc), ("R", .loc), ("mid", .loc), ("shift", .loc), ("upper", .loc), ("lower", .loc), ("a_digits", .fr), ("inner", .fr), ("n", .fr)], globs := [], code := none, qual := "_int2digits.<locals>.inner.<locals>." }
noncomputable def sc_0 : Scope := {
                  kind := PySem.ScopeKind.function,
                  names := [
                    (PySem.Str.ofString "x", PySem.NameKind.local),
                    (PySem.Str.ofString "L", PySem.NameKind.local),
                    (PySem.Str.ofString "R", PySem.NameKind.local),
                    (PySem.Str.ofString "mid", PySem.NameKind.local),
                    (PySem.Str.ofString "shift", PySem.NameKind.local),
                    (PySem.Str.ofString "upper", PySem.NameKind.local),
                    (PySem.Str.ofString "lower", PySem.NameKind.local),
                    (PySem.Str.ofString "a_digits", PySem.NameKind.free),
                    (PySem.Str.ofString "inner", PySem.NameKind.free),
                    (PySem.Str.ofString "n", PySem.NameKind.free)],
                  isGenerator := false,
                  isCoroutine := false,
                  more := [] : PySem.Scope }
noncomputable def ar_0 : Arguments := {
                  posonlyargs := [],
                  args := [
                    { arg := "x", annotation := none, pos := ⟨73, 14, 73, 15⟩ : PySem.Arg },
                    { arg := "L", annotation := none, pos := ⟨73, 17, 73, 18⟩ : PySem.Arg },
                    { arg := "R", annotation := none, pos := ⟨73, 20, 73, 21⟩ : PySem.Arg }],
                  vararg := none,
                  kwonlyargs := [],
                  kw_defaults := [],
                  kwarg := none,
                  defaults := [] : PySem.Arguments }
noncomputable def cap_0 : List Nat := [2, 1]
noncomputable def b82 : MSs := .cons
  (.exq (.cv 8 ⟨82, 8, 82, 13⟩ (.cons (.v 5 ⟨82, 14, 82, 19⟩) (.cons (.v 3 ⟨82, 21, 82, 24⟩) (.cons (.v 2 ⟨82, 26, 82, 27⟩) .nil))) ⟨82, 8, 82, 28⟩) ⟨82, 8, 82, 28⟩) .nil
noncomputable def b81 : MSs := .cons
  (.exq (.cv 8 ⟨81, 8, 81, 13⟩ (.cons (.v 6 ⟨81, 14, 81, 19⟩) (.cons (.v 1 ⟨81, 21, 81, 22⟩) (.cons (.v 3 ⟨81, 24, 81, 27⟩) .nil))) ⟨81, 8, 81, 28⟩) ⟨81, 8, 81, 28⟩) b82
noncomputable def b80 : MSs := .cons
  (.asg 6 ⟨80, 8, 80, 13⟩ (.bin .BitXor (.v 0 ⟨80, 16, 80, 17⟩) (.bin .LShift (.v 5 ⟨80, 20, 80, 25⟩) (.v 4 ⟨80, 29, 80, 34⟩) ⟨80, 20, 80, 34⟩) ⟨80, 16, 80, 34⟩) ⟨80, 8, 80, 34⟩) b81
noncomputable def b79 : MSs := .cons
  (.asg 5 ⟨79, 8, 79, 13⟩ (.bin .RShift (.v 0 ⟨79, 16, 79, 17⟩) (.v 4 ⟨79, 21, 79, 26⟩) ⟨79, 16, 79, 26⟩) ⟨79, 8, 79, 26⟩) b80
noncomputable def b78 : MSs := .cons
  (.asg 4 ⟨78, 8, 78, 13⟩ (.bin .Mult (.bin .Sub (.v 3 ⟨78, 17, 78, 20⟩) (.v 1 ⟨78, 23, 78, 24⟩) ⟨78, 17, 78, 24⟩) (.v 9 ⟨78, 28, 78, 29⟩) ⟨78, 16, 78, 29⟩) ⟨78, 8, 78, 29⟩) b79
noncomputable def b77 : MSs := .cons
  (.asg 3 ⟨77, 8, 77, 11⟩ (.bin .RShift (.bin .Add (.v 1 ⟨77, 14, 77, 15⟩) (.v 2 ⟨77, 18, 77, 19⟩) ⟨77, 14, 77, 19⟩) (.ci 1 ⟨77, 23, 77, 24⟩) ⟨77, 14, 77, 24⟩) ⟨77, 8, 77, 24⟩) b78
noncomputable def b76 : MSs := .cons
  (.ret0 ⟨76, 12, 76, 18⟩) .nil
noncomputable def b75 : MSs := .cons
  (.sst (.v 7 ⟨75, 12, 75, 20⟩) (.v 1 ⟨75, 21, 75, 22⟩) (.v 0 ⟨75, 26, 75, 27⟩) ⟨75, 12, 75, 23⟩ ⟨75, 12, 75, 27⟩) b76
noncomputable def b74 : MSs := .cons
  (.ifs (.cmp .Eq (.bin .Add (.v 1 ⟨74, 11, 74, 12⟩) (.ci 1 ⟨74, 15, 74, 16⟩) ⟨74, 11, 74, 16⟩) (.v 2 ⟨74, 20, 74, 21⟩) ⟨74, 11, 74, 21⟩) b75 .nil ⟨74, 8, 76, 18⟩) b77
noncomputable def oy : MSs := b74
noncomputable def db_0 : List Stmt := denSs mf oy
noncomputable def clo_0 : CloD := { name := "inner", qual := "_int2digits.<locals>.inner", params := ar_0, body := .stmts db_0, scope := sc_0, self := some "inner", free := ["a_digits", "n"] }
noncomputable def b73 : MSs := .cons
  (.dfn 0 3 cap_0 ar_0 db_0 sc_0 ⟨73, 4, 82, 28⟩) b83
noncomputable def b71 : MSs := .cons
  (.asg 2 ⟨71, 4, 71, 12⟩ (.rep (.ls false (.cons (.ci 0 ⟨71, 16, 71, 17⟩) .nil) ⟨71, 15, 71, 18⟩) (.bin .FloorDiv (.bin .Sub (.bin .Add (.mt (.v 0 ⟨71, 23, 71, 24⟩) .bitLength ⟨71, 23, 71, 35⟩ .nil false ⟨71, 23, 71, 37⟩) (.v 1 ⟨71, 40, 71, 41⟩) ⟨71, 23, 71, 41⟩) (.ci 1 ⟨71, 44, 71, 45⟩) ⟨71, 23, 71, 45⟩) (.v 1 ⟨71, 50, 71, 51⟩) ⟨71, 22, 71, 51⟩) true ⟨71, 15, 71, 52⟩) ⟨71, 4, 71, 52⟩) b73
noncomputable def oz : MSs := b71
noncomputable def ar__int2digits : Arguments := {
              posonlyargs := [],
              args := [
                { arg := "a", annotation := none, pos := ⟨70, 16, 70, 17⟩ : PySem.Arg },
                { arg := "n", annotation := none, pos := ⟨70, 19, 70, 20⟩ : PySem.Arg }],
              vararg := none,
              kwonlyargs := [],
              kw_defaults := [],
              kwarg := none,
              defaults := [] : PySem.Arguments }
noncomputable def mh : Ctx := { slots := [("digits", .cc), ("n", .cc), ("inner", .cc)], globs := ["len"], code := some 59, qual := "_digits2int.<locals>." }
noncomputable def b94 : MSs := .cons
  (.ret (.ite (.v 0 ⟨94, 36, 94, 42⟩) (.cv 2 ⟨94, 11, 94, 16⟩ (.cons (.ci 0 ⟨94, 17, 94, 18⟩) (.cons (.bi .len ⟨94, 20, 94, 23⟩ (.cons (.v 0 ⟨94, 24, 94, 30⟩) .nil) ⟨94, 20, 94, 31⟩) .nil)) ⟨94, 11, 94, 32⟩) (.ci 0 ⟨94, 48, 94, 49⟩) ⟨94, 11, 94, 49⟩) ⟨94, 4, 94, 49⟩) .nil
noncomputable def mv : Ctx := { slots := [("L", .loc), ("R", .loc), ("mid", .loc), ("shift", .loc), ("digits", .fr), ("inner", .fr), ("n", .fr)], globs := [], code := none, qual := "_digits2int.<locals>.inner.<locals>." }
noncomputable def sc_1 : Scope := {
                  kind := PySem.ScopeKind.function,
                  names := [
                    (PySem.Str.ofString "L", PySem.NameKind.local),
                    (PySem.Str.ofString "R", PySem.NameKind.local),
                    (PySem.Str.ofString "mid", PySem.NameKind.local),
                    (PySem.Str.ofString "shift", PySem.NameKind.local),
                    (PySem.Str.ofString "digits", PySem.NameKind.free),
                    (PySem.Str.ofString "inner", PySem.NameKind.free),
                    (PySem.Str.ofString "n", PySem.NameKind.free)],
                  isGenerator := false,
                  isCoroutine := false,
                  more := [] : PySem.Scope }
noncomputable def ar_1 : Arguments := {
                  posonlyargs := [],
                  args := [
                    { arg := "L", annotation := none, pos := ⟨88, 14, 88, 15⟩ : PySem.Arg },
                    { arg := "R", annotation := none, pos := ⟨88, 17, 88, 18⟩ : PySem.Arg }],
                  vararg := none,
                  kwonlyargs := [],
                  kw_defaults := [],
                  kwarg := none,
                  defaults := [] : PySem.Arguments }
noncomputable def cap_1 : List Nat := [0, 1]
noncomputable def b93 : MSs := .cons
  (.ret (.bin .Add (.bin .LShift (.cv 5 ⟨93, 16, 93, 21⟩ (.cons (.v 2 ⟨93, 22, 93, 25⟩) (.cons (.v 1 ⟨93, 27, 93, 28⟩) .nil)) ⟨93, 16, 93, 29⟩) (.v 3 ⟨93, 33, 93, 38⟩) ⟨93, 16, 93, 38⟩) (.cv 5 ⟨93, 42, 93, 47⟩ (.cons (.v 0 ⟨93, 48, 93, 49⟩) (.cons (.v 2 ⟨93, 51, 93, 54⟩) .nil)) ⟨93, 42, 93, 55⟩) ⟨93, 15, 93, 55⟩) ⟨93, 8, 93, 55⟩) .nil
noncomputable def b92 : MSs := .cons
  (.asg 3 ⟨92, 8, 92, 13⟩ (.bin .Mult (.bin .Sub (.v 2 ⟨92, 17, 92, 20⟩) (.v 0 ⟨92, 23, 92, 24⟩) ⟨92, 17, 92, 24⟩) (.v 6 ⟨92, 28, 92, 29⟩) ⟨92, 16, 92, 29⟩) ⟨92, 8, 92, 29⟩) b93
noncomputable def b91 : MSs := .cons
  (.asg 2 ⟨91, 8, 91, 11⟩ (.bin .RShift (.bin .Add (.v 0 ⟨91, 14, 91, 15⟩) (.v 1 ⟨91, 18, 91, 19⟩) ⟨91, 14, 91, 19⟩) (.ci 1 ⟨91, 23, 91, 24⟩) ⟨91, 14, 91, 24⟩) ⟨91, 8, 91, 24⟩) b92
noncomputable def b90 : MSs := .cons
  (.ret (.ix (.v 4 ⟨90, 19, 90, 25⟩) (.v 0 ⟨90, 26, 90, 27⟩) ⟨90, 19, 90, 28⟩) ⟨90, 12, 90, 28⟩) .nil
noncomputable def b89 : MSs := .cons
  (.ifs (.cmp .Eq (.bin .Add (.v 0 ⟨89, 11, 89, 12⟩) (.ci 1 ⟨89, 15, 89, 16⟩) ⟨89, 11, 89, 16⟩) (.v 1 ⟨89, 20, 89, 21⟩) ⟨89, 11, 89, 21⟩) b90 .nil ⟨89, 8, 90, 28⟩) b91
noncomputable def p0 : MSs := b89
noncomputable def db_1 : List Stmt := denSs mv p0
noncomputable def clo_1 : CloD := { name := "inner", qual := "_digits2int.<locals>.inner", params := ar_1, body := .stmts db_1, scope := sc_1, self := some "inner", free := ["digits", "n"] }
noncomputable def b88 : MSs := .cons
  (.dfn 1 2 cap_1 ar_1 db_1 sc_1 ⟨88, 4, 93, 55⟩) b94
noncomputable def p7 : MSs := b88
noncomputable def ar__digits2int : Arguments := {
              posonlyargs := [],
              args := [
                { arg := "digits", annotation := none, pos := ⟨86, 16, 86, 22⟩ : PySem.Arg },
                { arg := "n", annotation := none, pos := ⟨86, 24, 86, 25⟩ : PySem.Arg }],
              vararg := none,
              kwonlyargs := [],
              kw_defaults := [],
              kwarg := none,
              defaults := [] : PySem.Arguments }
noncomputable def lr : Ctx := { slots := [("a", .loc), ("b", .loc), ("n", .loc), ("a_digits", .loc), ("r", .loc), ("q_digits", .loc), ("a_digit", .loc), ("q_digit", .loc), ("q", .loc)], globs := ["_int2digits", "reversed", "_div2n1n", "_digits2int"], code := none, qual := "_divmod_pos.<locals>." }
noncomputable def b105 : MSs := .cons
  (.ret (.tp (.cons (.v 8 ⟨105, 12, 105, 13⟩) (.cons (.v 4 ⟨105, 15, 105, 16⟩) .nil)) ⟨105, 11, 105, 17⟩) ⟨105, 4, 105, 17⟩) .nil
noncomputable def b104 : MSs := .cons
  (.asg 8 ⟨104, 4, 104, 5⟩ (.cg "_digits2int" 60 ⟨104, 8, 104, 19⟩ (.cons (.fz (.v 5 ⟨104, 20, 104, 28⟩)) (.cons (.v 2 ⟨104, 30, 104, 31⟩) .nil)) ⟨104, 8, 104, 32⟩) ⟨104, 4, 104, 32⟩) b105
noncomputable def b103 : MSs := .cons
  (.exq (.mt (.v 5 ⟨103, 4, 103, 12⟩) .reverse ⟨103, 4, 103, 20⟩ .nil false ⟨103, 4, 103, 22⟩) ⟨103, 4, 103, 22⟩) b104
noncomputable def b102 : MSs := .cons
  (.exq (.mt (.v 5 ⟨102, 8, 102, 16⟩) .append ⟨102, 8, 102, 23⟩ (.cons (.v 7 ⟨102, 24, 102, 31⟩) .nil) false ⟨102, 8, 102, 32⟩) ⟨102, 8, 102, 32⟩) .nil
noncomputable def b101 : MSs := .cons
  (.unp 7 ⟨101, 8, 101, 15⟩ 4 ⟨101, 17, 101, 18⟩ (.cg "_div2n1n" 39 ⟨101, 21, 101, 29⟩ (.cons (.bin .Add (.bin .LShift (.v 4 ⟨101, 31, 101, 32⟩) (.v 2 ⟨101, 36, 101, 37⟩) ⟨101, 31, 101, 37⟩) (.v 6 ⟨101, 41, 101, 48⟩) ⟨101, 30, 101, 48⟩) (.cons (.v 1 ⟨101, 50, 101, 51⟩) (.cons (.v 2 ⟨101, 53, 101, 54⟩) .nil))) ⟨101, 21, 101, 55⟩) ⟨101, 8, 101, 18⟩ ⟨101, 8, 101, 55⟩) b102
noncomputable def b100 : MSs := .cons
  (.for_ 6 ⟨100, 8, 100, 15⟩ (.rev (.v 3 ⟨100, 28, 100, 36⟩) ⟨100, 19, 100, 27⟩ ⟨100, 19, 100, 37⟩) b101 ⟨100, 4, 102, 32⟩) b103
noncomputable def b99 : MSs := .cons
  (.asg 5 ⟨99, 4, 99, 12⟩ (.ls true .nil ⟨99, 15, 99, 17⟩) ⟨99, 4, 99, 17⟩) b100
noncomputable def b98 : MSs := .cons
  (.asg 4 ⟨98, 4, 98, 5⟩ (.ci 0 ⟨98, 8, 98, 9⟩) ⟨98, 4, 98, 9⟩) b99
noncomputable def b97 : MSs := .cons
  (.asg 3 ⟨97, 4, 97, 12⟩ (.cg "_int2digits" 53 ⟨97, 15, 97, 26⟩ (.cons (.v 0 ⟨97, 27, 97, 28⟩) (.cons (.v 2 ⟨97, 30, 97, 31⟩) .nil)) ⟨97, 15, 97, 32⟩) ⟨97, 4, 97, 32⟩) b98
noncomputable def b96 : MSs := .cons
  (.asg 2 ⟨96, 4, 96, 5⟩ (.mt (.v 1 ⟨96, 8, 96, 9⟩) .bitLength ⟨96, 8, 96, 20⟩ .nil false ⟨96, 8, 96, 22⟩) ⟨96, 4, 96, 22⟩) b97
noncomputable def p9 : MSs := b96
noncomputable def ar__divmod_pos : Arguments := {
              posonlyargs := [],
              args := [
                { arg := "a", annotation := none, pos := ⟨95, 16, 95, 17⟩ : PySem.Arg },
                { arg := "b", annotation := none, pos := ⟨95, 19, 95, 20⟩ : PySem.Arg }],
              vararg := none,
              kwonlyargs := [],
              kw_defaults := [],
              kwarg := none,
              defaults := [] : PySem.Arguments }
noncomputable def mj : Ctx := { slots := [("a", .loc), ("b", .loc), ("q", .loc), ("r", .loc)], globs := ["ZeroDivisionError", "int_divmod", "_divmod_pos"], code := none, qual := "int_divmod.<locals>." }
noncomputable def b108 : MSs := .cons
  (.rse (PySem.Stmt.Raise (some (PySem.Expr.Name "ZeroDivisionError" ⟨108, 14, 108, 31⟩)) none ⟨108, 8, 108, 31⟩)) .nil
noncomputable def b111 : MSs := .cons
  (.ret (.tp (.cons (.v 2 ⟨111, 16, 111, 17⟩) (.cons (.un .USub (.v 3 ⟨111, 20, 111, 21⟩) ⟨111, 19, 111, 21⟩) .nil)) ⟨111, 15, 111, 22⟩) ⟨111, 8, 111, 22⟩) .nil
noncomputable def b110 : MSs := .cons
  (.unp 2 ⟨110, 8, 110, 9⟩ 3 ⟨110, 11, 110, 12⟩ (.cg "int_divmod" 74 ⟨110, 15, 110, 25⟩ (.cons (.un .USub (.v 0 ⟨110, 27, 110, 28⟩) ⟨110, 26, 110, 28⟩) (.cons (.un .USub (.v 1 ⟨110, 31, 110, 32⟩) ⟨110, 30, 110, 32⟩) .nil)) ⟨110, 15, 110, 33⟩) ⟨110, 8, 110, 12⟩ ⟨110, 8, 110, 33⟩) b111
noncomputable def b114 : MSs := .cons
  (.ret (.tp (.cons (.un .Invert (.v 2 ⟨114, 17, 114, 18⟩) ⟨114, 16, 114, 18⟩) (.cons (.bin .Add (.v 1 ⟨114, 20, 114, 21⟩) (.un .Invert (.v 3 ⟨114, 25, 114, 26⟩) ⟨114, 24, 114, 26⟩) ⟨114, 20, 114, 26⟩) .nil)) ⟨114, 15, 114, 27⟩) ⟨114, 8, 114, 27⟩) .nil
noncomputable def b113 : MSs := .cons
  (.unp 2 ⟨113, 8, 113, 9⟩ 3 ⟨113, 11, 113, 12⟩ (.cg "int_divmod" 74 ⟨113, 15, 113, 25⟩ (.cons (.un .Invert (.v 0 ⟨113, 27, 113, 28⟩) ⟨113, 26, 113, 28⟩) (.cons (.v 1 ⟨113, 30, 113, 31⟩) .nil)) ⟨113, 15, 113, 32⟩) ⟨113, 8, 113, 12⟩ ⟨113, 8, 113, 32⟩) b114
noncomputable def b116 : MSs := .cons
  (.ret (.cg "_divmod_pos" 67 ⟨116, 15, 116, 26⟩ (.cons (.v 0 ⟨116, 27, 116, 28⟩) (.cons (.v 1 ⟨116, 30, 116, 31⟩) .nil)) ⟨116, 15, 116, 32⟩) ⟨116, 8, 116, 32⟩) .nil
noncomputable def b112 : MSs := .cons
  (.ifs (.cmp .Lt (.v 0 ⟨112, 9, 112, 10⟩) (.ci 0 ⟨112, 13, 112, 14⟩) ⟨112, 9, 112, 14⟩) b113 b116 ⟨112, 4, 116, 32⟩) .nil
noncomputable def b109 : MSs := .cons
  (.ifs (.cmp .Lt (.v 1 ⟨109, 9, 109, 10⟩) (.ci 0 ⟨109, 13, 109, 14⟩) ⟨109, 9, 109, 14⟩) b110 b112 ⟨109, 4, 116, 32⟩) .nil
noncomputable def b107 : MSs := .cons
  (.ifs (.cmp .Eq (.v 1 ⟨107, 7, 107, 8⟩) (.ci 0 ⟨107, 12, 107, 13⟩) ⟨107, 7, 107, 13⟩) b108 b109 ⟨107, 4, 116, 32⟩) .nil
noncomputable def nw : MSs := b107
noncomputable def ar_int_divmod : Arguments := {
              posonlyargs := [],
              args := [
                { arg := "a", annotation := none, pos := ⟨106, 15, 106, 16⟩ : PySem.Arg },
                { arg := "b", annotation := none, pos := ⟨106, 18, 106, 19⟩ : PySem.Arg }],
              vararg := none,
              kwonlyargs := [],
              kw_defaults := [],
              kwarg := none,
              defaults := [] : PySem.Arguments }
noncomputable def lu : Ctx := { slots := [("want", .loc), ("got", .loc), ("ws", .loc), ("startpos", .loc), ("endpos", .loc), ("w", .loc)], globs := ["ELLIPSIS_MARKER", "len"], code := none, qual := "_ellipsis_match.<locals>." }
noncomputable def b146 : MSs := .cons
  (.ret (.cb true ⟨146, 11, 146, 15⟩) ⟨146, 4, 146, 15⟩) .nil
noncomputable def b145 : MSs := .cons
  (.aug 3 ⟨145, 8, 145, 16⟩ .Add (.bi .len ⟨145, 20, 145, 23⟩ (.cons (.v 5 ⟨145, 24, 145, 25⟩) .nil) ⟨145, 20, 145, 26⟩) ⟨145, 8, 145, 26⟩) .nil
noncomputable def b144 : MSs := .cons
  (.ret (.cb false ⟨144, 19, 144, 24⟩) ⟨144, 12, 144, 24⟩) .nil
noncomputable def b143 : MSs := .cons
  (.ifs (.cmp .Lt (.v 3 ⟨143, 11, 143, 19⟩) (.ci 0 ⟨143, 22, 143, 23⟩) ⟨143, 11, 143, 23⟩) b144 .nil ⟨143, 8, 144, 24⟩) b145
noncomputable def b142 : MSs := .cons
  (.asg 3 ⟨142, 8, 142, 16⟩ (.mt (.v 1 ⟨142, 19, 142, 22⟩) .find ⟨142, 19, 142, 27⟩ (.cons (.v 5 ⟨142, 28, 142, 29⟩) (.cons (.v 3 ⟨142, 31, 142, 39⟩) (.cons (.v 4 ⟨142, 41, 142, 47⟩) .nil))) false ⟨142, 19, 142, 48⟩) ⟨142, 8, 142, 48⟩) b143
noncomputable def b141 : MSs := .cons
  (.for_ 5 ⟨141, 8, 141, 9⟩ (.it (.v 2 ⟨141, 13, 141, 15⟩)) b142 ⟨141, 4, 145, 26⟩) b146
noncomputable def b140 : MSs := .cons
  (.ret (.cb false ⟨140, 15, 140, 20⟩) ⟨140, 8, 140, 20⟩) .nil
noncomputable def b139 : MSs := .cons
  (.ifs (.cmp .Gt (.v 3 ⟨139, 7, 139, 15⟩) (.v 4 ⟨139, 18, 139, 24⟩) ⟨139, 7, 139, 24⟩) b140 .nil ⟨139, 4, 140, 20⟩) b141
noncomputable def b136 : MSs := .cons
  (.del (.v 2 ⟨136, 16, 136, 18⟩) (.un .USub (.ci 1 ⟨136, 20, 136, 21⟩) ⟨136, 19, 136, 21⟩) ⟨136, 16, 136, 22⟩ ⟨136, 12, 136, 22⟩) .nil
noncomputable def b135 : MSs := .cons
  (.aug 4 ⟨135, 12, 135, 18⟩ .Sub (.bi .len ⟨135, 22, 135, 25⟩ (.cons (.v 5 ⟨135, 26, 135, 27⟩) .nil) ⟨135, 22, 135, 28⟩) ⟨135, 12, 135, 28⟩) b136
noncomputable def b138 : MSs := .cons
  (.ret (.cb false ⟨138, 19, 138, 24⟩) ⟨138, 12, 138, 24⟩) .nil
noncomputable def b134 : MSs := .cons
  (.ifs (.mt (.v 1 ⟨134, 11, 134, 14⟩) .endswith ⟨134, 11, 134, 23⟩ (.cons (.v 5 ⟨134, 24, 134, 25⟩) .nil) false ⟨134, 11, 134, 26⟩) b135 b138 ⟨134, 8, 138, 24⟩) .nil
noncomputable def b133 : MSs := .cons
  (.ifs (.v 5 ⟨133, 7, 133, 8⟩) b134 .nil ⟨133, 4, 138, 24⟩) b139
noncomputable def b132 : MSs := .cons
  (.asg 5 ⟨132, 4, 132, 5⟩ (.ix (.v 2 ⟨132, 8, 132, 10⟩) (.un .USub (.ci 1 ⟨132, 12, 132, 13⟩) ⟨132, 11, 132, 13⟩) ⟨132, 8, 132, 14⟩) ⟨132, 4, 132, 14⟩) b133
noncomputable def b129 : MSs := .cons
  (.del (.v 2 ⟨129, 16, 129, 18⟩) (.ci 0 ⟨129, 19, 129, 20⟩) ⟨129, 16, 129, 21⟩ ⟨129, 12, 129, 21⟩) .nil
noncomputable def b128 : MSs := .cons
  (.asg 3 ⟨128, 12, 128, 20⟩ (.bi .len ⟨128, 23, 128, 26⟩ (.cons (.v 5 ⟨128, 27, 128, 28⟩) .nil) ⟨128, 23, 128, 29⟩) ⟨128, 12, 128, 29⟩) b129
noncomputable def b131 : MSs := .cons
  (.ret (.cb false ⟨131, 19, 131, 24⟩) ⟨131, 12, 131, 24⟩) .nil
noncomputable def b127 : MSs := .cons
  (.ifs (.mt (.v 1 ⟨127, 11, 127, 14⟩) .startswith ⟨127, 11, 127, 25⟩ (.cons (.v 5 ⟨127, 26, 127, 27⟩) .nil) false ⟨127, 11, 127, 28⟩) b128 b131 ⟨127, 8, 131, 24⟩) .nil
noncomputable def b126 : MSs := .cons
  (.ifs (.v 5 ⟨126, 7, 126, 8⟩) b127 .nil ⟨126, 4, 131, 24⟩) b132
noncomputable def b125 : MSs := .cons
  (.asg 5 ⟨125, 4, 125, 5⟩ (.ix (.v 2 ⟨125, 8, 125, 10⟩) (.ci 0 ⟨125, 11, 125, 12⟩) ⟨125, 8, 125, 13⟩) ⟨125, 4, 125, 13⟩) b126
noncomputable def b124 : MSs := .cons
  (.swp 3 ⟨124, 4, 124, 12⟩ 4 ⟨124, 14, 124, 20⟩ (.ci 0 ⟨124, 24, 124, 25⟩) (.bi .len ⟨124, 27, 124, 30⟩ (.cons (.v 1 ⟨124, 31, 124, 34⟩) .nil) ⟨124, 27, 124, 35⟩) ⟨124, 4, 124, 20⟩ ⟨124, 23, 124, 36⟩ ⟨124, 4, 124, 36⟩) b125
noncomputable def b123 : MSs := .cons
  (.asr (.cmp .GtE (.bi .len ⟨123, 11, 123, 14⟩ (.cons (.v 2 ⟨123, 15, 123, 17⟩) .nil) ⟨123, 11, 123, 18⟩) (.ci 2 ⟨123, 22, 123, 23⟩) ⟨123, 11, 123, 23⟩) ⟨123, 4, 123, 23⟩) b124
noncomputable def b122 : MSs := .cons
  (.asg 2 ⟨122, 4, 122, 6⟩ (.mt (.v 0 ⟨122, 9, 122, 13⟩) .split ⟨122, 9, 122, 19⟩ (.cons (.gc "ELLIPSIS_MARKER" (.str "...") ⟨122, 20, 122, 35⟩) .nil) true ⟨122, 9, 122, 36⟩) ⟨122, 4, 122, 36⟩) b123
noncomputable def b121 : MSs := .cons
  (.ret (.cmp .Eq (.v 0 ⟨121, 15, 121, 19⟩) (.v 1 ⟨121, 23, 121, 26⟩) ⟨121, 15, 121, 26⟩) ⟨121, 8, 121, 26⟩) .nil
noncomputable def b120 : MSs := .cons
  (.ifs (.cmp .NotIn (.gc "ELLIPSIS_MARKER" (.str "...") ⟨120, 7, 120, 22⟩) (.v 0 ⟨120, 30, 120, 34⟩) ⟨120, 7, 120, 34⟩) b121 .nil ⟨120, 4, 121, 26⟩) b122
noncomputable def ou : MSs := b120
noncomputable def ar__ellipsis_match : Arguments := {
              posonlyargs := [],
              args := [
                { arg := "want", annotation := none, pos := ⟨119, 20, 119, 24⟩ : PySem.Arg },
                { arg := "got", annotation := none, pos := ⟨119, 26, 119, 29⟩ : PySem.Arg }],
              vararg := none,
              kwonlyargs := [],
              kw_defaults := [],
              kwarg := none,
              defaults := [] : PySem.Arguments }
noncomputable def mz : Ctx := { slots := [("ch_a", .loc), ("ch_b", .loc)], globs := ["_CASE_COST", "_MOVE_COST"], code := none, qual := "_substitution_cost.<locals>." }
noncomputable def b156 : MSs := .cons
  (.ret (.gc "_MOVE_COST" (.int 2) ⟨156, 11, 156, 21⟩) ⟨156, 4, 156, 21⟩) .nil
noncomputable def b155 : MSs := .cons
  (.ret (.gc "_CASE_COST" (.int 1) ⟨155, 15, 155, 25⟩) ⟨155, 8, 155, 25⟩) .nil
noncomputable def b154 : MSs := .cons
  (.ifs (.cmp .Eq (.mt (.v 0 ⟨154, 7, 154, 11⟩) .lower ⟨154, 7, 154, 17⟩ .nil false ⟨154, 7, 154, 19⟩) (.mt (.v 1 ⟨154, 23, 154, 27⟩) .lower ⟨154, 23, 154, 33⟩ .nil false ⟨154, 23, 154, 35⟩) ⟨154, 7, 154, 35⟩) b155 .nil ⟨154, 4, 155, 25⟩) b156
noncomputable def b153 : MSs := .cons
  (.ret (.ci 0 ⟨153, 15, 153, 16⟩) ⟨153, 8, 153, 16⟩) .nil
noncomputable def b152 : MSs := .cons
  (.ifs (.cmp .Eq (.v 0 ⟨152, 7, 152, 11⟩) (.v 1 ⟨152, 15, 152, 19⟩) ⟨152, 7, 152, 19⟩) b153 .nil ⟨152, 4, 153, 16⟩) b154
noncomputable def pd : MSs := b152
noncomputable def ar__substitution_cost : Arguments := {
              posonlyargs := [],
              args := [
                { arg := "ch_a", annotation := none, pos := ⟨151, 23, 151, 27⟩ : PySem.Arg },
                { arg := "ch_b", annotation := none, pos := ⟨151, 29, 151, 33⟩ : PySem.Arg }],
              vararg := none,
              kwonlyargs := [],
              kw_defaults := [],
              kwarg := none,
              defaults := [] : PySem.Arguments }
noncomputable def ki : Ctx := { slots := [("a", .loc), ("b", .loc), ("max_cost", .loc), ("pre", .loc), ("post", .loc), ("row", .loc), ("result", .loc), ("bindex", .loc), ("bchar", .loc), ("distance", .loc), ("minimum", .loc), ("index", .loc), ("substitute", .loc), ("insert_delete", .loc)], globs := ["_MOVE_COST", "len", "_MAX_STRING_SIZE", "list", "range", "_substitution_cost", "min"], code := none, qual := "_levenshtein_distance.<locals>." }
noncomputable def b194 : MSs := .cons
  (.ret (.v 6 ⟨194, 11, 194, 17⟩) ⟨194, 4, 194, 17⟩) .nil
noncomputable def b193 : MSs := .cons
  (.ret (.bin .Add (.v 2 ⟨193, 19, 193, 27⟩) (.ci 1 ⟨193, 30, 193, 31⟩) ⟨193, 19, 193, 31⟩) ⟨193, 12, 193, 31⟩) .nil
noncomputable def b192 : MSs := .cons
  (.ifs (.cmp .Gt (.v 10 ⟨192, 11, 192, 18⟩) (.v 2 ⟨192, 21, 192, 29⟩) ⟨192, 11, 192, 29⟩) b193 .nil ⟨192, 8, 193, 31⟩) .nil
noncomputable def b191 : MSs := .cons
  (.asg 10 ⟨191, 16, 191, 23⟩ (.v 6 ⟨191, 26, 191, 32⟩) ⟨191, 16, 191, 32⟩) .nil
noncomputable def b190 : MSs := .cons
  (.ifs (.cmp .Lt (.v 6 ⟨190, 15, 190, 21⟩) (.v 10 ⟨190, 24, 190, 31⟩) ⟨190, 15, 190, 31⟩) b191 .nil ⟨190, 12, 191, 32⟩) .nil
noncomputable def b189 : MSs := .cons
  (.sst (.v 5 ⟨189, 12, 189, 15⟩) (.v 11 ⟨189, 16, 189, 21⟩) (.v 6 ⟨189, 25, 189, 31⟩) ⟨189, 12, 189, 22⟩ ⟨189, 12, 189, 31⟩) b190
noncomputable def b188 : MSs := .cons
  (.asg 6 ⟨188, 12, 188, 18⟩ (.bi .min ⟨188, 21, 188, 24⟩ (.cons (.v 13 ⟨188, 25, 188, 38⟩) (.cons (.v 12 ⟨188, 40, 188, 50⟩) .nil)) ⟨188, 21, 188, 51⟩) ⟨188, 12, 188, 51⟩) b189
noncomputable def b187 : MSs := .cons
  (.asg 13 ⟨187, 12, 187, 25⟩ (.bin .Add (.bi .min ⟨187, 28, 187, 31⟩ (.cons (.v 6 ⟨187, 32, 187, 38⟩) (.cons (.v 9 ⟨187, 40, 187, 48⟩) .nil)) ⟨187, 28, 187, 49⟩) (.gc "_MOVE_COST" (.int 2) ⟨187, 52, 187, 62⟩) ⟨187, 28, 187, 62⟩) ⟨187, 12, 187, 62⟩) b188
noncomputable def b186 : MSs := .cons
  (.asg 9 ⟨186, 12, 186, 20⟩ (.ix (.v 5 ⟨186, 23, 186, 26⟩) (.v 11 ⟨186, 27, 186, 32⟩) ⟨186, 23, 186, 33⟩) ⟨186, 12, 186, 33⟩) b187
noncomputable def b185 : MSs := .cons
  (.asg 12 ⟨185, 12, 185, 22⟩ (.bin .Add (.v 9 ⟨185, 25, 185, 33⟩) (.cg "_substitution_cost" 88 ⟨185, 36, 185, 54⟩ (.cons (.v 8 ⟨185, 55, 185, 60⟩) (.cons (.ix (.v 0 ⟨185, 62, 185, 63⟩) (.v 11 ⟨185, 64, 185, 69⟩) ⟨185, 62, 185, 70⟩) .nil)) ⟨185, 36, 185, 71⟩) ⟨185, 25, 185, 71⟩) ⟨185, 12, 185, 71⟩) b186
noncomputable def b184 : MSs := .cons
  (.for_ 11 ⟨184, 12, 184, 17⟩ (.rng (.cons (.bi .len ⟨184, 27, 184, 30⟩ (.cons (.v 0 ⟨184, 31, 184, 32⟩) .nil) ⟨184, 27, 184, 33⟩) .nil) ⟨184, 21, 184, 26⟩ ⟨184, 21, 184, 34⟩) b185 ⟨184, 8, 191, 32⟩) b192
noncomputable def b183 : MSs := .cons
  (.asg 10 ⟨183, 8, 183, 15⟩ (.ci 9223372036854775807 ⟨183, 18, 183, 37⟩) ⟨183, 8, 183, 37⟩) b184
noncomputable def b182 : MSs := .cons
  (.asg2 9 ⟨182, 8, 182, 16⟩ 6 ⟨182, 19, 182, 25⟩ (.bin .Mult (.v 7 ⟨182, 28, 182, 34⟩) (.gc "_MOVE_COST" (.int 2) ⟨182, 37, 182, 47⟩) ⟨182, 28, 182, 47⟩) ⟨182, 8, 182, 47⟩) b183
noncomputable def b181 : MSs := .cons
  (.asg 8 ⟨181, 8, 181, 13⟩ (.ix (.v 1 ⟨181, 16, 181, 17⟩) (.v 7 ⟨181, 18, 181, 24⟩) ⟨181, 16, 181, 25⟩) ⟨181, 8, 181, 25⟩) b182
noncomputable def b180 : MSs := .cons
  (.for_ 7 ⟨180, 8, 180, 14⟩ (.rng (.cons (.bi .len ⟨180, 24, 180, 27⟩ (.cons (.v 1 ⟨180, 28, 180, 29⟩) .nil) ⟨180, 24, 180, 30⟩) .nil) ⟨180, 18, 180, 23⟩ ⟨180, 18, 180, 31⟩) b181 ⟨180, 4, 193, 31⟩) b194
noncomputable def b179 : MSs := .cons
  (.asg 6 ⟨179, 4, 179, 10⟩ (.ci 0 ⟨179, 13, 179, 14⟩) ⟨179, 4, 179, 14⟩) b180
noncomputable def b178 : MSs := .cons
  (.asg 5 ⟨178, 4, 178, 7⟩ (.lst (.rng (.cons (.gc "_MOVE_COST" (.int 2) ⟨178, 21, 178, 31⟩) (.cons (.bin .Mult (.gc "_MOVE_COST" (.int 2) ⟨178, 33, 178, 43⟩) (.bin .Add (.bi .len ⟨178, 47, 178, 50⟩ (.cons (.v 0 ⟨178, 51, 178, 52⟩) .nil) ⟨178, 47, 178, 53⟩) (.ci 1 ⟨178, 56, 178, 57⟩) ⟨178, 47, 178, 57⟩) ⟨178, 33, 178, 58⟩) (.cons (.gc "_MOVE_COST" (.int 2) ⟨178, 60, 178, 70⟩) .nil))) ⟨178, 15, 178, 20⟩ ⟨178, 15, 178, 71⟩) true ⟨178, 10, 178, 14⟩ ⟨178, 10, 178, 72⟩) ⟨178, 4, 178, 72⟩) b179
noncomputable def b177 : MSs := .cons
  (.ret (.bin .Add (.v 2 ⟨177, 15, 177, 23⟩) (.ci 1 ⟨177, 26, 177, 27⟩) ⟨177, 15, 177, 27⟩) ⟨177, 8, 177, 27⟩) .nil
noncomputable def b176 : MSs := .cons
  (.ifs (.cmp .Gt (.bin .Mult (.bin .Sub (.bi .len ⟨176, 8, 176, 11⟩ (.cons (.v 1 ⟨176, 12, 176, 13⟩) .nil) ⟨176, 8, 176, 14⟩) (.bi .len ⟨176, 17, 176, 20⟩ (.cons (.v 0 ⟨176, 21, 176, 22⟩) .nil) ⟨176, 17, 176, 23⟩) ⟨176, 8, 176, 23⟩) (.gc "_MOVE_COST" (.int 2) ⟨176, 27, 176, 37⟩) ⟨176, 7, 176, 37⟩) (.v 2 ⟨176, 40, 176, 48⟩) ⟨176, 7, 176, 48⟩) b177 .nil ⟨176, 4, 177, 27⟩) b178
noncomputable def b175 : MSs := .cons
  (.swp 0 ⟨175, 8, 175, 9⟩ 1 ⟨175, 11, 175, 12⟩ (.v 1 ⟨175, 16, 175, 17⟩) (.v 0 ⟨175, 19, 175, 20⟩) ⟨175, 8, 175, 12⟩ ⟨175, 15, 175, 21⟩ ⟨175, 8, 175, 21⟩) .nil
noncomputable def b174 : MSs := .cons
  (.ifs (.cmp .Lt (.bi .len ⟨174, 7, 174, 10⟩ (.cons (.v 1 ⟨174, 11, 174, 12⟩) .nil) ⟨174, 7, 174, 13⟩) (.bi .len ⟨174, 16, 174, 19⟩ (.cons (.v 0 ⟨174, 20, 174, 21⟩) .nil) ⟨174, 16, 174, 22⟩) ⟨174, 7, 174, 22⟩) b175 .nil ⟨174, 4, 175, 21⟩) b176
noncomputable def b173 : MSs := .cons
  (.ret (.bin .Add (.v 2 ⟨173, 15, 173, 23⟩) (.ci 1 ⟨173, 26, 173, 27⟩) ⟨173, 15, 173, 27⟩) ⟨173, 8, 173, 27⟩) .nil
noncomputable def b172 : MSs := .cons
  (.ifs (.bo .Or (.cons (.cmp .Gt (.bi .len ⟨172, 7, 172, 10⟩ (.cons (.v 0 ⟨172, 11, 172, 12⟩) .nil) ⟨172, 7, 172, 13⟩) (.gc "_MAX_STRING_SIZE" (.int 40) ⟨172, 16, 172, 32⟩) ⟨172, 7, 172, 32⟩) (.cons (.cmp .Gt (.bi .len ⟨172, 36, 172, 39⟩ (.cons (.v 1 ⟨172, 40, 172, 41⟩) .nil) ⟨172, 36, 172, 42⟩) (.gc "_MAX_STRING_SIZE" (.int 40) ⟨172, 45, 172, 61⟩) ⟨172, 36, 172, 61⟩) .nil)) ⟨172, 7, 172, 61⟩) b173 .nil ⟨172, 4, 173, 27⟩) b174
noncomputable def b171 : MSs := .cons
  (.ret (.bin .Mult (.gc "_MOVE_COST" (.int 2) ⟨171, 15, 171, 25⟩) (.bin .Add (.bi .len ⟨171, 29, 171, 32⟩ (.cons (.v 0 ⟨171, 33, 171, 34⟩) .nil) ⟨171, 29, 171, 35⟩) (.bi .len ⟨171, 38, 171, 41⟩ (.cons (.v 1 ⟨171, 42, 171, 43⟩) .nil) ⟨171, 38, 171, 44⟩) ⟨171, 29, 171, 44⟩) ⟨171, 15, 171, 45⟩) ⟨171, 8, 171, 45⟩) .nil
noncomputable def b170 : MSs := .cons
  (.ifs (.bo .Or (.cons (.un .Not (.v 0 ⟨170, 11, 170, 12⟩) ⟨170, 7, 170, 12⟩) (.cons (.un .Not (.v 1 ⟨170, 20, 170, 21⟩) ⟨170, 16, 170, 21⟩) .nil)) ⟨170, 7, 170, 21⟩) b171 .nil ⟨170, 4, 171, 45⟩) b172
noncomputable def b169 : MSs := .cons
  (.asg 1 ⟨169, 4, 169, 5⟩ (.slU (.v 1 ⟨169, 8, 169, 9⟩) (.bo .Or (.cons (.v 4 ⟨169, 11, 169, 15⟩) (.cons (.cn ⟨169, 19, 169, 23⟩) .nil)) ⟨169, 11, 169, 23⟩) ⟨169, 10, 169, 23⟩ ⟨169, 8, 169, 24⟩) ⟨169, 4, 169, 24⟩) b170
noncomputable def b168 : MSs := .cons
  (.asg 0 ⟨168, 4, 168, 5⟩ (.slU (.v 0 ⟨168, 8, 168, 9⟩) (.bo .Or (.cons (.v 4 ⟨168, 11, 168, 15⟩) (.cons (.cn ⟨168, 19, 168, 23⟩) .nil)) ⟨168, 11, 168, 23⟩) ⟨168, 10, 168, 23⟩ ⟨168, 8, 168, 24⟩) ⟨168, 4, 168, 24⟩) b169
noncomputable def b167 : MSs := .cons
  (.aug 4 ⟨167, 8, 167, 12⟩ .Sub (.ci 1 ⟨167, 16, 167, 17⟩) ⟨167, 8, 167, 17⟩) .nil
noncomputable def b166 : MSs := .cons
  (.whl (.bo .And (.cons (.slU (.v 0 ⟨166, 10, 166, 11⟩) (.bo .Or (.cons (.v 4 ⟨166, 13, 166, 17⟩) (.cons (.cn ⟨166, 21, 166, 25⟩) .nil)) ⟨166, 13, 166, 25⟩) ⟨166, 12, 166, 25⟩ ⟨166, 10, 166, 26⟩) (.cons (.slU (.v 1 ⟨166, 31, 166, 32⟩) (.bo .Or (.cons (.v 4 ⟨166, 34, 166, 38⟩) (.cons (.cn ⟨166, 42, 166, 46⟩) .nil)) ⟨166, 34, 166, 46⟩) ⟨166, 33, 166, 46⟩ ⟨166, 31, 166, 47⟩) (.cons (.cmp .Eq (.ix (.v 0 ⟨166, 53, 166, 54⟩) (.bin .Sub (.v 4 ⟨166, 55, 166, 59⟩) (.ci 1 ⟨166, 62, 166, 63⟩) ⟨166, 55, 166, 63⟩) ⟨166, 53, 166, 64⟩) (.ix (.v 1 ⟨166, 68, 166, 69⟩) (.bin .Sub (.v 4 ⟨166, 70, 166, 74⟩) (.ci 1 ⟨166, 77, 166, 78⟩) ⟨166, 70, 166, 78⟩) ⟨166, 68, 166, 79⟩) ⟨166, 53, 166, 79⟩) .nil))) ⟨166, 10, 166, 80⟩) b167 ⟨166, 4, 167, 17⟩) b168
noncomputable def b165 : MSs := .cons
  (.asg 4 ⟨165, 4, 165, 8⟩ (.ci 0 ⟨165, 11, 165, 12⟩) ⟨165, 4, 165, 12⟩) b166
noncomputable def b164 : MSs := .cons
  (.asg 1 ⟨164, 4, 164, 5⟩ (.slL (.v 1 ⟨164, 8, 164, 9⟩) (.v 3 ⟨164, 10, 164, 13⟩) ⟨164, 10, 164, 14⟩ ⟨164, 8, 164, 15⟩) ⟨164, 4, 164, 15⟩) b165
noncomputable def b163 : MSs := .cons
  (.asg 0 ⟨163, 4, 163, 5⟩ (.slL (.v 0 ⟨163, 8, 163, 9⟩) (.v 3 ⟨163, 10, 163, 13⟩) ⟨163, 10, 163, 14⟩ ⟨163, 8, 163, 15⟩) ⟨163, 4, 163, 15⟩) b164
noncomputable def b162 : MSs := .cons
  (.aug 3 ⟨162, 8, 162, 11⟩ .Add (.ci 1 ⟨162, 15, 162, 16⟩) ⟨162, 8, 162, 16⟩) .nil
noncomputable def b161 : MSs := .cons
  (.whl (.bo .And (.cons (.slL (.v 0 ⟨161, 10, 161, 11⟩) (.v 3 ⟨161, 12, 161, 15⟩) ⟨161, 12, 161, 16⟩ ⟨161, 10, 161, 17⟩) (.cons (.slL (.v 1 ⟨161, 22, 161, 23⟩) (.v 3 ⟨161, 24, 161, 27⟩) ⟨161, 24, 161, 28⟩ ⟨161, 22, 161, 29⟩) (.cons (.cmp .Eq (.ix (.v 0 ⟨161, 35, 161, 36⟩) (.v 3 ⟨161, 37, 161, 40⟩) ⟨161, 35, 161, 41⟩) (.ix (.v 1 ⟨161, 45, 161, 46⟩) (.v 3 ⟨161, 47, 161, 50⟩) ⟨161, 45, 161, 51⟩) ⟨161, 35, 161, 51⟩) .nil))) ⟨161, 10, 161, 52⟩) b162 ⟨161, 4, 162, 16⟩) b163
noncomputable def b160 : MSs := .cons
  (.asg 3 ⟨160, 4, 160, 7⟩ (.ci 0 ⟨160, 10, 160, 11⟩) ⟨160, 4, 160, 11⟩) b161
noncomputable def b159 : MSs := .cons
  (.ret (.ci 0 ⟨159, 15, 159, 16⟩) ⟨159, 8, 159, 16⟩) .nil
noncomputable def b158 : MSs := .cons
  (.ifs (.cmp .Eq (.v 0 ⟨158, 7, 158, 8⟩) (.v 1 ⟨158, 12, 158, 13⟩) ⟨158, 7, 158, 13⟩) b159 .nil ⟨158, 4, 159, 16⟩) b160
noncomputable def pf : MSs := b158
noncomputable def ar__levenshtein_distance : Arguments := {
              posonlyargs := [],
              args := [
                { arg := "a", annotation := none, pos := ⟨157, 26, 157, 27⟩ : PySem.Arg },
                { arg := "b", annotation := none, pos := ⟨157, 29, 157, 30⟩ : PySem.Arg },
                { arg := "max_cost", annotation := none, pos := ⟨157, 32, 157, 40⟩ : PySem.Arg }],
              vararg := none,
              kwonlyargs := [],
              kw_defaults := [],
              kwarg := none,
              defaults := [] : PySem.Arguments }
noncomputable def ml : Ctx := { slots := [("chains", .loc), ("place", .nc), ("longer", .loc), ("others", .loc)], globs := ["range", "sorted"], code := some 99, qual := "_law_chains.<locals>." }
noncomputable def pg : Ctx := { slots := [("chain", .loc)], globs := ["len"], code := none, qual := "_law_chains.<locals>.<lambda>.<locals>." }
noncomputable def sc_2 : Scope := {
                            kind := PySem.ScopeKind.function,
                            names := [
                              (PySem.Str.ofString "chain", PySem.NameKind.local),
                              (PySem.Str.ofString "len", PySem.NameKind.globalImplicit)],
                            isGenerator := false,
                            isCoroutine := false,
                            more := [] : PySem.Scope }
noncomputable def ar_2 : Arguments := {
                            posonlyargs := [],
                            args := [{ arg := "chain", annotation := none, pos := ⟨202, 37, 202, 42⟩ : PySem.Arg }],
                            vararg := none,
                            kwonlyargs := [],
                            kw_defaults := [],
                            kwarg := none,
                            defaults := [] : PySem.Arguments }
noncomputable def cap_2 : List Nat := []
noncomputable def ml_2 : ME := (.bi .len ⟨202, 44, 202, 47⟩ (.cons (.v 0 ⟨202, 48, 202, 53⟩) .nil) ⟨202, 44, 202, 54⟩)
noncomputable def lb_2 : Expr := den pg ml_2
noncomputable def clo_2 : CloD := { name := "<lambda>", qual := "_law_chains.<locals>.<lambda>", params := ar_2, body := .expr lb_2, scope := sc_2, self := none, free := [] }
noncomputable def b202 : MSs := .cons
  (.rsrt (.v 0 ⟨202, 18, 202, 24⟩) 2 cap_2 ar_2 lb_2 sc_2 ⟨202, 30, 202, 54⟩ ⟨202, 26, 202, 54⟩ ⟨202, 11, 202, 17⟩ ⟨202, 11, 202, 55⟩ ⟨202, 4, 202, 55⟩) .nil
noncomputable def b201 : MSs := .cons
  (.asg 0 ⟨201, 8, 201, 14⟩ (.bin .Add (.v 2 ⟨201, 17, 201, 23⟩) (.v 3 ⟨201, 26, 201, 32⟩) ⟨201, 17, 201, 32⟩) ⟨201, 8, 201, 32⟩) .nil
noncomputable def sc_c210 : Scope := {
                        kind := PySem.ScopeKind.function,
                        names := [
                          (PySem.Str.ofString ".0", PySem.NameKind.local),
                          (PySem.Str.ofString "chain", PySem.NameKind.local),
                          (PySem.Str.ofString "len", PySem.NameKind.globalImplicit),
                          (PySem.Str.ofString "place", PySem.NameKind.free)],
                        isGenerator := false,
                        isCoroutine := false,
                        more := [] : PySem.Scope }
noncomputable def cc_210 : CompI := { own := [("chain", .loc)], cap := [1], globs := ["len"], scope := sc_c210 }
noncomputable def sc_c211 : Scope := {
                          kind := PySem.ScopeKind.function,
                          names := [
                            (PySem.Str.ofString ".0", PySem.NameKind.local),
                            (PySem.Str.ofString "choice", PySem.NameKind.local),
                            (PySem.Str.ofString "place", PySem.NameKind.free)],
                          isGenerator := false,
                          isCoroutine := false,
                          more := [] : PySem.Scope }
noncomputable def cc_211 : CompI := { own := [("choice", .loc)], cap := [1], globs := [], scope := sc_c211 }
noncomputable def b200 : MSs := .cons
  (.asg 3 ⟨200, 8, 200, 14⟩ (.comp cc_210 false (.comp cc_211 false (.bin .Add (.v 0 ⟨200, 19, 200, 25⟩) (.bin .Pow (.ci 2 ⟨200, 28, 200, 29⟩) (.v 1 ⟨200, 33, 200, 38⟩) ⟨200, 28, 200, 38⟩) ⟨200, 19, 200, 38⟩) ⟨200, 43, 200, 49⟩ (.it (.slU (.v 0 ⟨200, 53, 200, 58⟩) (.un .USub (.ci 1 ⟨200, 61, 200, 62⟩) ⟨200, 60, 200, 62⟩) ⟨200, 59, 200, 62⟩ ⟨200, 53, 200, 63⟩)) .nil ⟨200, 18, 200, 64⟩) ⟨200, 69, 200, 74⟩ (.it (.v 0 ⟨200, 78, 200, 84⟩)) (.cons (.cmp .Gt (.bi .len ⟨200, 88, 200, 91⟩ (.cons (.v 0 ⟨200, 92, 200, 97⟩) .nil) ⟨200, 88, 200, 98⟩) (.ci 1 ⟨200, 101, 200, 102⟩) ⟨200, 88, 200, 102⟩) .nil) ⟨200, 17, 200, 103⟩) ⟨200, 8, 200, 103⟩) b201
noncomputable def sc_c213 : Scope := {
                        kind := PySem.ScopeKind.function,
                        names := [
                          (PySem.Str.ofString ".0", PySem.NameKind.local),
                          (PySem.Str.ofString "chain", PySem.NameKind.local),
                          (PySem.Str.ofString "place", PySem.NameKind.free)],
                        isGenerator := false,
                        isCoroutine := false,
                        more := [] : PySem.Scope }
noncomputable def cc_213 : CompI := { own := [("chain", .loc)], cap := [1], globs := [], scope := sc_c213 }
noncomputable def b199 : MSs := .cons
  (.asg 2 ⟨199, 8, 199, 14⟩ (.comp cc_213 false (.bin .Add (.v 0 ⟨199, 18, 199, 23⟩) (.ls false (.cons (.bin .Add (.ix (.v 0 ⟨199, 27, 199, 32⟩) (.un .USub (.ci 1 ⟨199, 34, 199, 35⟩) ⟨199, 33, 199, 35⟩) ⟨199, 27, 199, 36⟩) (.bin .Pow (.ci 2 ⟨199, 39, 199, 40⟩) (.v 1 ⟨199, 44, 199, 49⟩) ⟨199, 39, 199, 49⟩) ⟨199, 27, 199, 49⟩) .nil) ⟨199, 26, 199, 50⟩) ⟨199, 18, 199, 50⟩) ⟨199, 55, 199, 60⟩ (.it (.v 0 ⟨199, 64, 199, 70⟩)) .nil ⟨199, 17, 199, 71⟩) ⟨199, 8, 199, 71⟩) b200
noncomputable def b198 : MSs := .cons
  (.for_ 1 ⟨198, 8, 198, 13⟩ (.rng (.cons (.ci 5 ⟨198, 23, 198, 24⟩) .nil) ⟨198, 17, 198, 22⟩ ⟨198, 17, 198, 25⟩) b199 ⟨198, 4, 201, 32⟩) b202
noncomputable def b197 : MSs := .cons
  (.asg 0 ⟨197, 4, 197, 10⟩ (.ls false (.cons (.ls false (.cons (.ci 0 ⟨197, 15, 197, 16⟩) .nil) ⟨197, 14, 197, 17⟩) .nil) ⟨197, 13, 197, 18⟩) ⟨197, 4, 197, 18⟩) b198
noncomputable def ph : MSs := b197
noncomputable def ar__law_chains : Arguments := {
              posonlyargs := [],
              args := [],
              vararg := none,
              kwonlyargs := [],
              kw_defaults := [],
              kwarg := none,
              defaults := [] : PySem.Arguments }
noncomputable def mw : Ctx := { slots := [("numbers", .loc), ("held", .loc), ("x", .nc)], globs := [], code := none, qual := "_law_held.<locals>." }
noncomputable def b207 : MSs := .cons
  (.ret (.v 1 ⟨207, 11, 207, 15⟩) ⟨207, 4, 207, 15⟩) .nil
noncomputable def sc_c221 : Scope := {
                          kind := PySem.ScopeKind.function,
                          names := [
                            (PySem.Str.ofString ".0", PySem.NameKind.local),
                            (PySem.Str.ofString "signs", PySem.NameKind.local),
                            (PySem.Str.ofString "x", PySem.NameKind.free)],
                          isGenerator := false,
                          isCoroutine := false,
                          more := [] : PySem.Scope }
noncomputable def cc_221 : CompI := { own := [("signs", .loc)], cap := [2], globs := [], scope := sc_c221 }
noncomputable def b206 : MSs := .cons
  (.asg 1 ⟨206, 8, 206, 12⟩ (.bin .Add (.v 1 ⟨206, 15, 206, 19⟩) (.comp cc_221 false (.bin .Add (.v 0 ⟨206, 23, 206, 28⟩) (.ix (.cs "abA" ⟨206, 31, 206, 36⟩) (.bin .Mod (.v 1 ⟨206, 37, 206, 38⟩) (.ci 3 ⟨206, 41, 206, 42⟩) ⟨206, 37, 206, 42⟩) ⟨206, 31, 206, 43⟩) ⟨206, 23, 206, 43⟩) ⟨206, 48, 206, 53⟩ (.it (.v 1 ⟨206, 57, 206, 61⟩)) .nil ⟨206, 22, 206, 62⟩) ⟨206, 15, 206, 62⟩) ⟨206, 8, 206, 62⟩) .nil
noncomputable def b205 : MSs := .cons
  (.for_ 2 ⟨205, 8, 205, 9⟩ (.it (.v 0 ⟨205, 13, 205, 20⟩)) b206 ⟨205, 4, 206, 62⟩) b207
noncomputable def b204 : MSs := .cons
  (.asg 1 ⟨204, 4, 204, 8⟩ (.ls false (.cons (.cs "" ⟨204, 12, 204, 14⟩) .nil) ⟨204, 11, 204, 15⟩) ⟨204, 4, 204, 15⟩) b205
noncomputable def pq : MSs := b204
noncomputable def ar__law_held : Arguments := {
              posonlyargs := [],
              args := [{ arg := "numbers", annotation := none, pos := ⟨203, 14, 203, 21⟩ : PySem.Arg }],
              vararg := none,
              kwonlyargs := [],
              kw_defaults := [],
              kwarg := none,
              defaults := [] : PySem.Arguments }
noncomputable def mx : Ctx := { slots := [("width", .nc), ("steps", .loc), ("place", .nc)], globs := ["range"], code := none, qual := "_law_steps.<locals>." }
noncomputable def b212 : MSs := .cons
  (.ret (.v 1 ⟨212, 11, 212, 16⟩) ⟨212, 4, 212, 16⟩) .nil
noncomputable def sc_c229 : Scope := {
                          kind := PySem.ScopeKind.function,
                          names := [
                            (PySem.Str.ofString ".0", PySem.NameKind.local),
                            (PySem.Str.ofString "step", PySem.NameKind.local),
                            (PySem.Str.ofString "place", PySem.NameKind.free),
                            (PySem.Str.ofString "width", PySem.NameKind.free)],
                          isGenerator := false,
                          isCoroutine := false,
                          more := [] : PySem.Scope }
noncomputable def cc_229 : CompI := { own := [("step", .loc)], cap := [2, 0], globs := [], scope := sc_c229 }
noncomputable def b211 : MSs := .cons
  (.asg 1 ⟨211, 8, 211, 13⟩ (.bin .Add (.v 1 ⟨211, 16, 211, 21⟩) (.comp cc_229 false (.bin .Mult (.v 0 ⟨211, 25, 211, 29⟩) (.bin .Add (.bin .Pow (.ci 2 ⟨211, 33, 211, 34⟩) (.bin .Mult (.v 2 ⟨211, 39, 211, 44⟩) (.bin .Pow (.ci 2 ⟨211, 47, 211, 48⟩) (.v 1 ⟨211, 52, 211, 57⟩) ⟨211, 47, 211, 57⟩) ⟨211, 39, 211, 57⟩) ⟨211, 33, 211, 58⟩) (.ci 1 ⟨211, 61, 211, 62⟩) ⟨211, 33, 211, 62⟩) ⟨211, 25, 211, 63⟩) ⟨211, 68, 211, 72⟩ (.it (.v 1 ⟨211, 76, 211, 81⟩)) .nil ⟨211, 24, 211, 82⟩) ⟨211, 16, 211, 82⟩) ⟨211, 8, 211, 82⟩) .nil
noncomputable def b210 : MSs := .cons
  (.for_ 2 ⟨210, 8, 210, 13⟩ (.rng (.cons (.ci 5 ⟨210, 23, 210, 24⟩) .nil) ⟨210, 17, 210, 22⟩ ⟨210, 17, 210, 25⟩) b211 ⟨210, 4, 211, 82⟩) b212
noncomputable def b209 : MSs := .cons
  (.asg 1 ⟨209, 4, 209, 9⟩ (.ls false (.cons (.ci 1 ⟨209, 13, 209, 14⟩) .nil) ⟨209, 12, 209, 15⟩) ⟨209, 4, 209, 15⟩) b210
noncomputable def pr : MSs := b209
noncomputable def ar__law_steps : Arguments := {
              posonlyargs := [],
              args := [{ arg := "width", annotation := none, pos := ⟨208, 15, 208, 20⟩ : PySem.Arg }],
              vararg := none,
              kwonlyargs := [],
              kw_defaults := [],
              kwarg := none,
              defaults := [] : PySem.Arguments }
noncomputable def lx : Ctx := { slots := [("one", .loc), ("other", .loc), ("k", .loc), ("row", .loc), ("x", .loc), ("below", .loc), ("change", .loc)], globs := ["range", "len", "min"], code := none, qual := "_law_price.<locals>." }
noncomputable def b221 : MSs := .cons
  (.ret (.ix (.v 3 ⟨221, 11, 221, 14⟩) (.un .USub (.ci 1 ⟨221, 16, 221, 17⟩) ⟨221, 15, 221, 17⟩) ⟨221, 11, 221, 18⟩) ⟨221, 4, 221, 18⟩) .nil
noncomputable def b220 : MSs := .cons
  (.asg 3 ⟨220, 8, 220, 11⟩ (.fz (.v 5 ⟨220, 14, 220, 19⟩)) ⟨220, 8, 220, 19⟩) .nil
noncomputable def b219 : MSs := .cons
  (.exq (.mt (.v 5 ⟨219, 12, 219, 17⟩) .append ⟨219, 12, 219, 24⟩ (.cons (.bi .min ⟨219, 25, 219, 28⟩ (.cons (.bin .Add (.ix (.v 5 ⟨219, 29, 219, 34⟩) (.v 2 ⟨219, 35, 219, 36⟩) ⟨219, 29, 219, 37⟩) (.ci 2 ⟨219, 40, 219, 41⟩) ⟨219, 29, 219, 41⟩) (.cons (.bin .Add (.ix (.v 3 ⟨219, 43, 219, 46⟩) (.bin .Add (.v 2 ⟨219, 47, 219, 48⟩) (.ci 1 ⟨219, 51, 219, 52⟩) ⟨219, 47, 219, 52⟩) ⟨219, 43, 219, 53⟩) (.ci 2 ⟨219, 56, 219, 57⟩) ⟨219, 43, 219, 57⟩) (.cons (.bin .Add (.ix (.v 3 ⟨219, 59, 219, 62⟩) (.v 2 ⟨219, 63, 219, 64⟩) ⟨219, 59, 219, 65⟩) (.v 6 ⟨219, 68, 219, 74⟩) ⟨219, 59, 219, 74⟩) .nil))) ⟨219, 25, 219, 75⟩) .nil) false ⟨219, 12, 219, 76⟩) ⟨219, 12, 219, 76⟩) .nil
noncomputable def b218 : MSs := .cons
  (.asg 6 ⟨218, 12, 218, 18⟩ (.ite (.cmp .Eq (.v 4 ⟨218, 26, 218, 27⟩) (.ix (.v 1 ⟨218, 31, 218, 36⟩) (.v 2 ⟨218, 37, 218, 38⟩) ⟨218, 31, 218, 39⟩) ⟨218, 26, 218, 39⟩) (.ci 0 ⟨218, 21, 218, 22⟩) (.ite (.cmp .In (.bin .Add (.v 4 ⟨218, 50, 218, 51⟩) (.ix (.v 1 ⟨218, 54, 218, 59⟩) (.v 2 ⟨218, 60, 218, 61⟩) ⟨218, 54, 218, 62⟩) ⟨218, 50, 218, 62⟩) (.ls false (.cons (.cs "aA" ⟨218, 67, 218, 71⟩) (.cons (.cs "Aa" ⟨218, 73, 218, 77⟩) .nil)) ⟨218, 66, 218, 78⟩) ⟨218, 50, 218, 78⟩) (.ci 1 ⟨218, 45, 218, 46⟩) (.ci 2 ⟨218, 84, 218, 85⟩) ⟨218, 45, 218, 85⟩) ⟨218, 21, 218, 85⟩) ⟨218, 12, 218, 85⟩) b219
noncomputable def b217 : MSs := .cons
  (.for_ 2 ⟨217, 12, 217, 13⟩ (.rng (.cons (.bi .len ⟨217, 23, 217, 26⟩ (.cons (.v 1 ⟨217, 27, 217, 32⟩) .nil) ⟨217, 23, 217, 33⟩) .nil) ⟨217, 17, 217, 22⟩ ⟨217, 17, 217, 34⟩) b218 ⟨217, 8, 219, 76⟩) b220
noncomputable def b216 : MSs := .cons
  (.asg 5 ⟨216, 8, 216, 13⟩ (.ls true (.cons (.bin .Add (.ix (.v 3 ⟨216, 17, 216, 20⟩) (.ci 0 ⟨216, 21, 216, 22⟩) ⟨216, 17, 216, 23⟩) (.ci 2 ⟨216, 26, 216, 27⟩) ⟨216, 17, 216, 27⟩) .nil) ⟨216, 16, 216, 28⟩) ⟨216, 8, 216, 28⟩) b217
noncomputable def b215 : MSs := .cons
  (.for_ 4 ⟨215, 8, 215, 9⟩ (.it (.v 0 ⟨215, 13, 215, 16⟩)) b216 ⟨215, 4, 220, 19⟩) b221
noncomputable def sc_c243 : Scope := {
                    kind := PySem.ScopeKind.function,
                    names := [(PySem.Str.ofString ".0", PySem.NameKind.local), (PySem.Str.ofString "k", PySem.NameKind.local)],
                    isGenerator := false,
                    isCoroutine := false,
                    more := [] : PySem.Scope }
noncomputable def cc_243 : CompI := { own := [("k", .loc)], cap := [], globs := [], scope := sc_c243 }
noncomputable def b214 : MSs := .cons
  (.asg 3 ⟨214, 4, 214, 7⟩ (.comp cc_243 false (.bin .Mult (.ci 2 ⟨214, 11, 214, 12⟩) (.v 0 ⟨214, 15, 214, 16⟩) ⟨214, 11, 214, 16⟩) ⟨214, 21, 214, 22⟩ (.rng (.cons (.bin .Add (.bi .len ⟨214, 32, 214, 35⟩ (.cons (.v 1 ⟨214, 36, 214, 41⟩) .nil) ⟨214, 32, 214, 42⟩) (.ci 1 ⟨214, 45, 214, 46⟩) ⟨214, 32, 214, 46⟩) .nil) ⟨214, 26, 214, 31⟩ ⟨214, 26, 214, 47⟩) .nil ⟨214, 10, 214, 48⟩) ⟨214, 4, 214, 48⟩) b215
noncomputable def pv : MSs := b214
noncomputable def ar__law_price : Arguments := {
              posonlyargs := [],
              args := [
                { arg := "one", annotation := none, pos := ⟨213, 15, 213, 18⟩ : PySem.Arg },
                { arg := "other", annotation := none, pos := ⟨213, 20, 213, 25⟩ : PySem.Arg }],
              vararg := none,
              kwonlyargs := [],
              kw_defaults := [],
              kwarg := none,
              defaults := [] : PySem.Arguments }
noncomputable def mq : Ctx := { slots := [("word", .loc), ("held", .loc), ("asked", .loc), ("choice", .loc)], globs := ["_ellipsis_match", "list"], code := none, qual := "_law_ask.<locals>." }
noncomputable def b224 : MSs := .cons
  (.ret (.cg "_ellipsis_match" 81 ⟨224, 11, 224, 26⟩ (.cons (.mt (.cs "..." ⟨224, 27, 224, 32⟩) .join ⟨224, 27, 224, 37⟩ (.cons (.bin .Add (.bin .Add (.ls false (.cons (.ix (.v 0 ⟨224, 39, 224, 43⟩) (.ci 0 ⟨224, 44, 224, 45⟩) ⟨224, 39, 224, 46⟩) .nil) ⟨224, 38, 224, 47⟩) (.lst (.it (.v 0 ⟨224, 55, 224, 59⟩)) false ⟨224, 50, 224, 54⟩ ⟨224, 50, 224, 60⟩) ⟨224, 38, 224, 60⟩) (.ls false (.cons (.ix (.v 0 ⟨224, 64, 224, 68⟩) (.un .USub (.ci 1 ⟨224, 70, 224, 71⟩) ⟨224, 69, 224, 71⟩) ⟨224, 64, 224, 72⟩) .nil) ⟨224, 63, 224, 73⟩) ⟨224, 38, 224, 73⟩) .nil) false ⟨224, 27, 224, 74⟩) (.cons (.bin .Add (.bin .Add (.ix (.v 0 ⟨224, 76, 224, 80⟩) (.ci 0 ⟨224, 81, 224, 82⟩) ⟨224, 76, 224, 83⟩) (.ix (.v 1 ⟨224, 86, 224, 90⟩) (.v 3 ⟨224, 91, 224, 97⟩) ⟨224, 86, 224, 98⟩) ⟨224, 76, 224, 98⟩) (.ix (.v 0 ⟨224, 101, 224, 105⟩) (.un .USub (.ci 1 ⟨224, 107, 224, 108⟩) ⟨224, 106, 224, 108⟩) ⟨224, 101, 224, 109⟩) ⟨224, 76, 224, 109⟩) .nil)) ⟨224, 11, 224, 110⟩) ⟨224, 4, 224, 110⟩) .nil
noncomputable def b223 : MSs := .cons
  (.exq (.mt (.v 2 ⟨223, 4, 223, 9⟩) .append ⟨223, 4, 223, 16⟩ (.cons (.v 3 ⟨223, 17, 223, 23⟩) .nil) false ⟨223, 4, 223, 24⟩) ⟨223, 4, 223, 24⟩) b224
noncomputable def px : MSs := b223
noncomputable def ar__law_ask : Arguments := {
              posonlyargs := [],
              args := [
                { arg := "word", annotation := none, pos := ⟨222, 13, 222, 17⟩ : PySem.Arg },
                { arg := "held", annotation := none, pos := ⟨222, 19, 222, 23⟩ : PySem.Arg },
                { arg := "asked", annotation := none, pos := ⟨222, 25, 222, 30⟩ : PySem.Arg },
                { arg := "choice", annotation := none, pos := ⟨222, 32, 222, 38⟩ : PySem.Arg }],
              vararg := none,
              kwonlyargs := [],
              kw_defaults := [],
              kwarg := none,
              defaults := [] : PySem.Arguments }
noncomputable def jc : Ctx := { slots := [("script", .loc), ("total", .loc), ("width", .nc), ("steps", .loc), ("whole", .loc), ("yes", .nc), ("no", .nc), ("chain", .nc), ("choice", .loc), ("known", .loc), ("low", .nc), ("high", .nc), ("before", .loc), ("spot", .loc), ("found", .loc), ("side", .loc), ("quotient", .loc), ("rest", .loc), ("rows", .nc), ("truth", .loc), ("told", .loc), ("price", .loc), ("pair", .loc), ("gots", .loc), ("asked", .cc), ("held", .cc), ("word", .cc)], globs := ["sum", "_law_held", "len", "_law_steps", "_law_chains", "bisect_left", "bisect_right", "int_divmod", "range", "_int2digits", "_law_price", "_levenshtein_distance"], code := some 126, qual := "law.<locals>." }
noncomputable def sc_c253 : Scope := {
                        kind := PySem.ScopeKind.function,
                        names := [
                          (PySem.Str.ofString ".0", PySem.NameKind.local),
                          (PySem.Str.ofString "got", PySem.NameKind.local),
                          (PySem.Str.ofString "_ellipsis_match", PySem.NameKind.globalImplicit),
                          (PySem.Str.ofString "word", PySem.NameKind.free)],
                        isGenerator := false,
                        isCoroutine := false,
                        more := [] : PySem.Scope }
noncomputable def cc_253 : CompI := { own := [("got", .loc)], cap := [26], globs := ["_ellipsis_match"], scope := sc_c253 }
noncomputable def b271 : MSs := .cons
  (.ret (.cmp .Eq (.comp cc_253 false (.cg "_ellipsis_match" 81 ⟨271, 12, 271, 27⟩ (.cons (.bin .Add (.bin .Add (.v 1 ⟨271, 28, 271, 32⟩) (.cs "..." ⟨271, 35, 271, 40⟩) ⟨271, 28, 271, 40⟩) (.v 1 ⟨271, 43, 271, 47⟩) ⟨271, 28, 271, 47⟩) (.cons (.v 0 ⟨271, 49, 271, 52⟩) .nil)) ⟨271, 12, 271, 53⟩) ⟨271, 58, 271, 61⟩ (.it (.v 23 ⟨271, 65, 271, 69⟩)) .nil ⟨271, 11, 271, 70⟩) (.ls false (.cons (.cb true ⟨271, 75, 271, 79⟩) (.cons (.cb false ⟨271, 81, 271, 86⟩) (.cons (.cb false ⟨271, 88, 271, 93⟩) (.cons (.cb false ⟨271, 95, 271, 100⟩) .nil)))) ⟨271, 74, 271, 101⟩) ⟨271, 11, 271, 101⟩) ⟨271, 4, 271, 101⟩) .nil
noncomputable def b270 : MSs := .cons
  (.asg 23 ⟨270, 4, 270, 8⟩ (.ls false (.cons (.bin .Add (.v 26 ⟨270, 12, 270, 16⟩) (.v 26 ⟨270, 19, 270, 23⟩) ⟨270, 12, 270, 23⟩) (.cons (.v 26 ⟨270, 25, 270, 29⟩) (.cons (.bin .Add (.bin .Add (.cs "c" ⟨270, 31, 270, 34⟩) (.v 26 ⟨270, 37, 270, 41⟩) ⟨270, 31, 270, 41⟩) (.v 26 ⟨270, 44, 270, 48⟩) ⟨270, 31, 270, 48⟩) (.cons (.bin .Add (.bin .Add (.v 26 ⟨270, 50, 270, 54⟩) (.v 26 ⟨270, 57, 270, 61⟩) ⟨270, 50, 270, 61⟩) (.cs "c" ⟨270, 64, 270, 67⟩) ⟨270, 50, 270, 67⟩) .nil)))) ⟨270, 11, 270, 68⟩) ⟨270, 4, 270, 68⟩) b271
noncomputable def b269 : MSs := .cons
  (.ret (.cb false ⟨269, 23, 269, 28⟩) ⟨269, 16, 269, 28⟩) .nil
noncomputable def b268 : MSs := .cons
  (.ifs (.cmp .NotEq (.cg "_levenshtein_distance" 95 ⟨268, 15, 268, 36⟩ (.cons (.ix (.v 22 ⟨268, 37, 268, 41⟩) (.bin .Mod (.v 8 ⟨268, 42, 268, 48⟩) (.ci 2 ⟨268, 51, 268, 52⟩) ⟨268, 42, 268, 52⟩) ⟨268, 37, 268, 53⟩) (.cons (.ix (.v 22 ⟨268, 55, 268, 59⟩) (.bin .Sub (.ci 1 ⟨268, 60, 268, 61⟩) (.bin .Mod (.v 8 ⟨268, 64, 268, 70⟩) (.ci 2 ⟨268, 73, 268, 74⟩) ⟨268, 64, 268, 74⟩) ⟨268, 60, 268, 74⟩) ⟨268, 55, 268, 75⟩) (.cons (.bin .Sub (.v 21 ⟨268, 77, 268, 82⟩) (.bin .Mod (.bin .FloorDiv (.v 8 ⟨268, 85, 268, 91⟩) (.ci 2 ⟨268, 95, 268, 96⟩) ⟨268, 85, 268, 96⟩) (.ci 2 ⟨268, 99, 268, 100⟩) ⟨268, 85, 268, 100⟩) ⟨268, 77, 268, 100⟩) .nil))) ⟨268, 15, 268, 101⟩) (.v 21 ⟨268, 105, 268, 110⟩) ⟨268, 15, 268, 110⟩) b269 .nil ⟨268, 12, 269, 28⟩) .nil
noncomputable def b267 : MSs := .cons
  (.asg 22 ⟨267, 12, 267, 16⟩ (.ls false (.cons (.v 26 ⟨267, 20, 267, 24⟩) (.cons (.ix (.v 25 ⟨267, 26, 267, 30⟩) (.v 8 ⟨267, 31, 267, 37⟩) ⟨267, 26, 267, 38⟩) .nil)) ⟨267, 19, 267, 39⟩) ⟨267, 12, 267, 39⟩) b268
noncomputable def b266 : MSs := .cons
  (.asg 21 ⟨266, 12, 266, 17⟩ (.cg "_law_price" 115 ⟨266, 20, 266, 30⟩ (.cons (.v 26 ⟨266, 31, 266, 35⟩) (.cons (.ix (.v 25 ⟨266, 37, 266, 41⟩) (.v 8 ⟨266, 42, 266, 48⟩) ⟨266, 37, 266, 49⟩) .nil)) ⟨266, 20, 266, 50⟩) ⟨266, 12, 266, 50⟩) b267
noncomputable def b265 : MSs := .cons
  (.ifs (.cmp .NotIn (.v 8 ⟨265, 11, 265, 17⟩) (.v 24 ⟨265, 25, 265, 30⟩) ⟨265, 11, 265, 30⟩) b266 .nil ⟨265, 8, 269, 28⟩) .nil
noncomputable def b264 : MSs := .cons
  (.for_ 8 ⟨264, 8, 264, 14⟩ (.rng (.cons (.ci 32 ⟨264, 24, 264, 26⟩) .nil) ⟨264, 18, 264, 23⟩ ⟨264, 18, 264, 27⟩) b265 ⟨264, 4, 269, 28⟩) b270
noncomputable def b263 : MSs := .cons
  (.ret (.cb false ⟨263, 15, 263, 20⟩) ⟨263, 8, 263, 20⟩) .nil
noncomputable def b262 : MSs := .cons
  (.ifs (.bo .Or (.cons (.cmp .NotEq (.bin .Add (.v 20 ⟨262, 7, 262, 11⟩) (.rep (.ls false (.cons (.ci 0 ⟨262, 15, 262, 16⟩) .nil) ⟨262, 14, 262, 17⟩) (.bin .Sub (.ci 32 ⟨262, 21, 262, 23⟩) (.bi .len ⟨262, 26, 262, 29⟩ (.cons (.v 20 ⟨262, 30, 262, 34⟩) .nil) ⟨262, 26, 262, 35⟩) ⟨262, 21, 262, 35⟩) false ⟨262, 14, 262, 36⟩) ⟨262, 7, 262, 36⟩) (.v 19 ⟨262, 40, 262, 45⟩) ⟨262, 7, 262, 45⟩) (.cons (.cmp .NotEq (.v 6 ⟨262, 49, 262, 51⟩) (.bin .Sub (.v 4 ⟨262, 55, 262, 60⟩) (.v 5 ⟨262, 63, 262, 66⟩) ⟨262, 55, 262, 66⟩) ⟨262, 49, 262, 66⟩) .nil)) ⟨262, 7, 262, 66⟩) b263 .nil ⟨262, 4, 263, 20⟩) b264
noncomputable def b261 : MSs := .cons
  (.asg 20 ⟨261, 4, 261, 8⟩ (.cg "_int2digits" 53 ⟨261, 11, 261, 22⟩ (.cons (.v 5 ⟨261, 23, 261, 26⟩) (.cons (.v 2 ⟨261, 28, 261, 33⟩) .nil)) ⟨261, 11, 261, 34⟩) ⟨261, 4, 261, 34⟩) b262
noncomputable def sc_c265 : Scope := {
                    kind := PySem.ScopeKind.function,
                    names := [
                      (PySem.Str.ofString ".0", PySem.NameKind.local),
                      (PySem.Str.ofString "choice", PySem.NameKind.cell),
                      (PySem.Str.ofString "rows", PySem.NameKind.free)],
                    isGenerator := false,
                    isCoroutine := false,
                    more := [] : PySem.Scope }
noncomputable def cc_265 : CompI := { own := [("choice", .nc)], cap := [18], globs := [], scope := sc_c265 }
noncomputable def sc_c266 : Scope := {
                          kind := PySem.ScopeKind.function,
                          names := [
                            (PySem.Str.ofString ".0", PySem.NameKind.local),
                            (PySem.Str.ofString "row", PySem.NameKind.local),
                            (PySem.Str.ofString "choice", PySem.NameKind.free)],
                          isGenerator := false,
                          isCoroutine := false,
                          more := [] : PySem.Scope }
noncomputable def cc_266 : CompI := { own := [("row", .loc)], cap := [0], globs := [], scope := sc_c266 }
noncomputable def b260 : MSs := .cons
  (.asg 19 ⟨260, 4, 260, 9⟩ (.comp cc_265 false (.ite (.cmp .NotEq (.comp cc_266 false (.v 0 ⟨260, 19, 260, 22⟩) ⟨260, 27, 260, 30⟩ (.it (.v 1 ⟨260, 34, 260, 38⟩)) (.cons (.cmp .Eq (.bin .BitAnd (.v 0 ⟨260, 42, 260, 45⟩) (.v 1 ⟨260, 48, 260, 54⟩) ⟨260, 42, 260, 54⟩) (.v 0 ⟨260, 58, 260, 61⟩) ⟨260, 42, 260, 61⟩) .nil) ⟨260, 18, 260, 62⟩) (.ls false .nil ⟨260, 66, 260, 68⟩) ⟨260, 18, 260, 68⟩) (.ci 1 ⟨260, 13, 260, 14⟩) (.ci 0 ⟨260, 74, 260, 75⟩) ⟨260, 13, 260, 75⟩) ⟨260, 80, 260, 86⟩ (.rng (.cons (.ci 32 ⟨260, 96, 260, 98⟩) .nil) ⟨260, 90, 260, 95⟩ ⟨260, 90, 260, 99⟩) .nil ⟨260, 12, 260, 100⟩) ⟨260, 4, 260, 100⟩) b261
noncomputable def sc_c268 : Scope := {
                      kind := PySem.ScopeKind.function,
                      names := [
                        (PySem.Str.ofString ".0", PySem.NameKind.local),
                        (PySem.Str.ofString "choice", PySem.NameKind.local),
                        (PySem.Str.ofString "_ellipsis_match", PySem.NameKind.globalImplicit),
                        (PySem.Str.ofString "held", PySem.NameKind.free),
                        (PySem.Str.ofString "word", PySem.NameKind.free)],
                      isGenerator := false,
                      isCoroutine := false,
                      more := [] : PySem.Scope }
noncomputable def cc_268 : CompI := { own := [("choice", .loc)], cap := [25, 26], globs := ["_ellipsis_match"], scope := sc_c268 }
noncomputable def b259 : MSs := .cons
  (.ret (.cb false ⟨259, 15, 259, 20⟩) ⟨259, 8, 259, 20⟩) .nil
noncomputable def b258 : MSs := .cons
  (.ifs (.cmp .NotEq (.comp cc_268 false (.v 0 ⟨258, 8, 258, 14⟩) ⟨258, 19, 258, 25⟩ (.rng (.cons (.ci 32 ⟨258, 35, 258, 37⟩) .nil) ⟨258, 29, 258, 34⟩ ⟨258, 29, 258, 38⟩) (.cons (.cg "_ellipsis_match" 81 ⟨258, 42, 258, 57⟩ (.cons (.v 2 ⟨258, 58, 258, 62⟩) (.cons (.ix (.v 1 ⟨258, 64, 258, 68⟩) (.v 0 ⟨258, 69, 258, 75⟩) ⟨258, 64, 258, 76⟩) .nil)) ⟨258, 42, 258, 77⟩) .nil) ⟨258, 7, 258, 78⟩) (.v 18 ⟨258, 82, 258, 86⟩) ⟨258, 7, 258, 86⟩) b259 .nil ⟨258, 4, 259, 20⟩) b260
noncomputable def sc_c271 : Scope := {
                    kind := PySem.ScopeKind.function,
                    names := [
                      (PySem.Str.ofString ".0", PySem.NameKind.local),
                      (PySem.Str.ofString "choice", PySem.NameKind.local),
                      (PySem.Str.ofString "held", PySem.NameKind.free),
                      (PySem.Str.ofString "word", PySem.NameKind.free)],
                    isGenerator := false,
                    isCoroutine := false,
                    more := [] : PySem.Scope }
noncomputable def cc_271 : CompI := { own := [("choice", .loc)], cap := [25, 26], globs := [], scope := sc_c271 }
noncomputable def b257 : MSs := .cons
  (.asg 18 ⟨257, 4, 257, 8⟩ (.comp cc_271 false (.v 0 ⟨257, 12, 257, 18⟩) ⟨257, 23, 257, 29⟩ (.rng (.cons (.ci 32 ⟨257, 39, 257, 41⟩) .nil) ⟨257, 33, 257, 38⟩ ⟨257, 33, 257, 42⟩) (.cons (.cmp .Eq (.ix (.v 1 ⟨257, 46, 257, 50⟩) (.v 0 ⟨257, 51, 257, 57⟩) ⟨257, 46, 257, 58⟩) (.v 2 ⟨257, 62, 257, 66⟩) ⟨257, 46, 257, 66⟩) .nil) ⟨257, 11, 257, 67⟩) ⟨257, 4, 257, 67⟩) b258
noncomputable def b256 : MSs := .cons
  (.asg 6 ⟨256, 12, 256, 14⟩ (.bin .BitOr (.v 6 ⟨256, 17, 256, 19⟩) (.ix (.v 3 ⟨256, 22, 256, 27⟩) (.ix (.v 7 ⟨256, 28, 256, 33⟩) (.bin .Sub (.v 13 ⟨256, 34, 256, 38⟩) (.ci 1 ⟨256, 41, 256, 42⟩) ⟨256, 34, 256, 42⟩) ⟨256, 28, 256, 43⟩) ⟨256, 22, 256, 44⟩) ⟨256, 17, 256, 44⟩) ⟨256, 12, 256, 44⟩) .nil
noncomputable def b255 : MSs := .cons
  (.ifs (.cmp .Gt (.v 13 ⟨255, 11, 255, 15⟩) (.v 10 ⟨255, 18, 255, 21⟩) ⟨255, 11, 255, 21⟩) b256 .nil ⟨255, 8, 256, 44⟩) .nil
noncomputable def b254 : MSs := .cons
  (.asg 5 ⟨254, 12, 254, 15⟩ (.bin .BitOr (.v 5 ⟨254, 18, 254, 21⟩) (.bin .LShift (.bin .Sub (.un .USub (.ci 1 ⟨254, 25, 254, 26⟩) ⟨254, 24, 254, 26⟩) (.v 16 ⟨254, 29, 254, 37⟩) ⟨254, 24, 254, 37⟩) (.bin .Mult (.v 2 ⟨254, 41, 254, 46⟩) (.v 14 ⟨254, 49, 254, 54⟩) ⟨254, 41, 254, 54⟩) ⟨254, 24, 254, 54⟩) ⟨254, 18, 254, 54⟩) ⟨254, 12, 254, 54⟩) .nil
noncomputable def b253 : MSs := .cons
  (.ret (.cb false ⟨253, 23, 253, 28⟩) ⟨253, 16, 253, 28⟩) .nil
noncomputable def b252 : MSs := .cons
  (.ifs (.cmp .NotEq (.v 17 ⟨252, 15, 252, 19⟩) (.bin .Mult (.v 15 ⟨252, 23, 252, 27⟩) (.bin .Sub (.ci 1 ⟨252, 31, 252, 32⟩) (.ix (.v 3 ⟨252, 35, 252, 40⟩) (.v 14 ⟨252, 41, 252, 46⟩) ⟨252, 35, 252, 47⟩) ⟨252, 31, 252, 47⟩) ⟨252, 23, 252, 48⟩) ⟨252, 15, 252, 48⟩) b253 .nil ⟨252, 12, 253, 28⟩) b254
noncomputable def b251 : MSs := .cons
  (.unp 16 ⟨251, 12, 251, 20⟩ 17 ⟨251, 22, 251, 26⟩ (.cg "int_divmod" 74 ⟨251, 29, 251, 39⟩ (.cons (.bin .Mult (.v 15 ⟨251, 40, 251, 44⟩) (.bin .Add (.v 4 ⟨251, 48, 251, 53⟩) (.ci 1 ⟨251, 56, 251, 57⟩) ⟨251, 48, 251, 57⟩) ⟨251, 40, 251, 58⟩) (.cons (.bin .Mult (.un .USub (.v 15 ⟨251, 61, 251, 65⟩) ⟨251, 60, 251, 65⟩) (.ix (.v 3 ⟨251, 68, 251, 73⟩) (.v 14 ⟨251, 74, 251, 79⟩) ⟨251, 68, 251, 80⟩) ⟨251, 60, 251, 80⟩) .nil)) ⟨251, 29, 251, 81⟩) ⟨251, 12, 251, 26⟩ ⟨251, 12, 251, 81⟩) b252
noncomputable def b250 : MSs := .cons
  (.asg 15 ⟨250, 12, 250, 16⟩ (.bin .Sub (.ci 1 ⟨250, 19, 250, 20⟩) (.bin .Mult (.ci 2 ⟨250, 23, 250, 24⟩) (.bin .Mod (.v 14 ⟨250, 28, 250, 33⟩) (.ci 2 ⟨250, 36, 250, 37⟩) ⟨250, 28, 250, 37⟩) ⟨250, 23, 250, 38⟩) ⟨250, 19, 250, 38⟩) ⟨250, 12, 250, 38⟩) b251
noncomputable def b249 : MSs := .cons
  (.asg 14 ⟨249, 12, 249, 17⟩ (.ix (.v 7 ⟨249, 20, 249, 25⟩) (.v 13 ⟨249, 26, 249, 30⟩) ⟨249, 20, 249, 31⟩) ⟨249, 12, 249, 31⟩) b250
noncomputable def b248 : MSs := .cons
  (.ifs (.cmp .Lt (.v 13 ⟨248, 11, 248, 15⟩) (.v 11 ⟨248, 18, 248, 22⟩) ⟨248, 11, 248, 22⟩) b249 .nil ⟨248, 8, 254, 54⟩) b255
noncomputable def sc_c282 : Scope := {
                              kind := PySem.ScopeKind.function,
                              names := [
                                (PySem.Str.ofString ".0", PySem.NameKind.local),
                                (PySem.Str.ofString "choice", PySem.NameKind.local),
                                (PySem.Str.ofString "asked", PySem.NameKind.free),
                                (PySem.Str.ofString "chain", PySem.NameKind.free),
                                (PySem.Str.ofString "high", PySem.NameKind.free),
                                (PySem.Str.ofString "low", PySem.NameKind.free)],
                              isGenerator := false,
                              isCoroutine := false,
                              more := [] : PySem.Scope }
noncomputable def cc_282 : CompI := { own := [("choice", .loc)], cap := [24, 7, 11, 10], globs := [], scope := sc_c282 }
noncomputable def b247 : MSs := .cons
  (.ret (.cb false ⟨247, 19, 247, 24⟩) ⟨247, 12, 247, 24⟩) .nil
noncomputable def b246 : MSs := .cons
  (.ifs (.bo .Or (.cons (.cmp .Gt (.bin .Sub (.v 11 ⟨246, 11, 246, 15⟩) (.v 10 ⟨246, 18, 246, 21⟩) ⟨246, 11, 246, 21⟩) (.ci 2 ⟨246, 24, 246, 25⟩) ⟨246, 11, 246, 25⟩) (.cons (.cmp .NotEq (.comp cc_282 false (.v 0 ⟨246, 30, 246, 36⟩) ⟨246, 41, 246, 47⟩ (.it (.slL (.v 24 ⟨246, 51, 246, 56⟩) (.v 12 ⟨246, 57, 246, 63⟩) ⟨246, 57, 246, 64⟩ ⟨246, 51, 246, 65⟩)) (.cons (.bo .Or (.cons (.cmp .Gt (.mt (.v 1 ⟨246, 69, 246, 74⟩) .count ⟨246, 69, 246, 80⟩ (.cons (.v 0 ⟨246, 81, 246, 87⟩) .nil) false ⟨246, 69, 246, 88⟩) (.ci 1 ⟨246, 91, 246, 92⟩) ⟨246, 69, 246, 92⟩) (.cons (.cmp .NotIn (.v 0 ⟨246, 96, 246, 102⟩) (.slB (.v 2 ⟨246, 110, 246, 115⟩) (.v 4 ⟨246, 116, 246, 119⟩) (.v 3 ⟨246, 120, 246, 124⟩) ⟨246, 116, 246, 124⟩ ⟨246, 110, 246, 125⟩) ⟨246, 96, 246, 125⟩) .nil)) ⟨246, 69, 246, 125⟩) .nil) ⟨246, 29, 246, 126⟩) (.ls false .nil ⟨246, 130, 246, 132⟩) ⟨246, 29, 246, 132⟩) .nil)) ⟨246, 11, 246, 132⟩) b247 .nil ⟨246, 8, 247, 24⟩) b248
noncomputable def py : Ctx := { slots := [("choice", .loc), ("asked", .fr), ("held", .fr), ("word", .fr)], globs := ["_law_ask"], code := none, qual := "law.<locals>.<lambda>.<locals>." }
noncomputable def sc_3 : Scope := {
                                  kind := PySem.ScopeKind.function,
                                  names := [
                                    (PySem.Str.ofString "choice", PySem.NameKind.local),
                                    (PySem.Str.ofString "asked", PySem.NameKind.free),
                                    (PySem.Str.ofString "held", PySem.NameKind.free),
                                    (PySem.Str.ofString "word", PySem.NameKind.free),
                                    (PySem.Str.ofString "_law_ask", PySem.NameKind.globalImplicit)],
                                  isGenerator := false,
                                  isCoroutine := false,
                                  more := [] : PySem.Scope }
noncomputable def ar_3 : Arguments := {
                                  posonlyargs := [],
                                  args := [{ arg := "choice", annotation := none, pos := ⟨243, 68, 243, 74⟩ : PySem.Arg }],
                                  vararg := none,
                                  kwonlyargs := [],
                                  kw_defaults := [],
                                  kwarg := none,
                                  defaults := [] : PySem.Arguments }
noncomputable def cap_3 : List Nat := [24, 25, 26]
noncomputable def ml_3 : ME := (.cg "_law_ask" 122 ⟨243, 76, 243, 84⟩ (.cons (.v 3 ⟨243, 85, 243, 89⟩) (.cons (.v 2 ⟨243, 91, 243, 95⟩) (.cons (.v 1 ⟨243, 97, 243, 102⟩) (.cons (.v 0 ⟨243, 104, 243, 110⟩) .nil)))) ⟨243, 76, 243, 111⟩)
noncomputable def lb_3 : Expr := den py ml_3
noncomputable def clo_3 : CloD := { name := "<lambda>", qual := "law.<locals>.<lambda>", params := ar_3, body := .expr lb_3, scope := sc_3, self := none, free := ["asked", "held", "word"] }
noncomputable def b243 : MSs := .cons
  (.asg 13 ⟨243, 12, 243, 16⟩ (.cgk "bisect_right" 23 ⟨243, 19, 243, 31⟩ (.cons (.v 7 ⟨243, 32, 243, 37⟩) (.cons (.cb false ⟨243, 39, 243, 44⟩) (.cons (.v 10 ⟨243, 46, 243, 49⟩) (.cons (.v 11 ⟨243, 51, 243, 55⟩) .nil)))) "key" (.lm 3 cap_3 ar_3 lb_3 sc_3 ⟨243, 61, 243, 111⟩) ⟨243, 57, 243, 111⟩ ⟨243, 19, 243, 112⟩) ⟨243, 12, 243, 112⟩) .nil
noncomputable def qa : Ctx := { slots := [("choice", .loc), ("asked", .fr), ("held", .fr), ("word", .fr)], globs := ["_law_ask"], code := none, qual := "law.<locals>.<lambda>.<locals>." }
noncomputable def sc_4 : Scope := {
                                  kind := PySem.ScopeKind.function,
                                  names := [
                                    (PySem.Str.ofString "choice", PySem.NameKind.local),
                                    (PySem.Str.ofString "asked", PySem.NameKind.free),
                                    (PySem.Str.ofString "held", PySem.NameKind.free),
                                    (PySem.Str.ofString "word", PySem.NameKind.free),
                                    (PySem.Str.ofString "_law_ask", PySem.NameKind.globalImplicit)],
                                  isGenerator := false,
                                  isCoroutine := false,
                                  more := [] : PySem.Scope }
noncomputable def ar_4 : Arguments := {
                                  posonlyargs := [],
                                  args := [{ arg := "choice", annotation := none, pos := ⟨245, 66, 245, 72⟩ : PySem.Arg }],
                                  vararg := none,
                                  kwonlyargs := [],
                                  kw_defaults := [],
                                  kwarg := none,
                                  defaults := [] : PySem.Arguments }
noncomputable def cap_4 : List Nat := [24, 25, 26]
noncomputable def ml_4 : ME := (.cg "_law_ask" 122 ⟨245, 74, 245, 82⟩ (.cons (.v 3 ⟨245, 83, 245, 87⟩) (.cons (.v 2 ⟨245, 89, 245, 93⟩) (.cons (.v 1 ⟨245, 95, 245, 100⟩) (.cons (.v 0 ⟨245, 102, 245, 108⟩) .nil)))) ⟨245, 74, 245, 109⟩)
noncomputable def lb_4 : Expr := den qa ml_4
noncomputable def clo_4 : CloD := { name := "<lambda>", qual := "law.<locals>.<lambda>", params := ar_4, body := .expr lb_4, scope := sc_4, self := none, free := ["asked", "held", "word"] }
noncomputable def b245 : MSs := .cons
  (.asg 13 ⟨245, 12, 245, 16⟩ (.cgk "bisect_left" 32 ⟨245, 19, 245, 30⟩ (.cons (.v 7 ⟨245, 31, 245, 36⟩) (.cons (.cb true ⟨245, 38, 245, 42⟩) (.cons (.v 10 ⟨245, 44, 245, 47⟩) (.cons (.v 11 ⟨245, 49, 245, 53⟩) .nil)))) "key" (.lm 4 cap_4 ar_4 lb_4 sc_4 ⟨245, 59, 245, 109⟩) ⟨245, 55, 245, 109⟩ ⟨245, 19, 245, 110⟩) ⟨245, 12, 245, 110⟩) .nil
noncomputable def b242 : MSs := .cons
  (.ifs (.cmp .Eq (.bi .len ⟨242, 11, 242, 14⟩ (.cons (.v 7 ⟨242, 15, 242, 20⟩) .nil) ⟨242, 11, 242, 21⟩) (.ci 4 ⟨242, 25, 242, 26⟩) ⟨242, 11, 242, 26⟩) b243 b245 ⟨242, 8, 245, 110⟩) b246
noncomputable def b241 : MSs := .cons
  (.asg 12 ⟨241, 8, 241, 14⟩ (.bi .len ⟨241, 17, 241, 20⟩ (.cons (.v 24 ⟨241, 21, 241, 26⟩) .nil) ⟨241, 17, 241, 27⟩) ⟨241, 8, 241, 27⟩) b242
noncomputable def b240 : MSs := .cons
  (.ret (.cb false ⟨240, 19, 240, 24⟩) ⟨240, 12, 240, 24⟩) .nil
noncomputable def b239 : MSs := .cons
  (.ifs (.cmp .NotEq (.ls false (.cons (.cg "bisect_left" 32 ⟨239, 12, 239, 23⟩ (.cons (.v 9 ⟨239, 24, 239, 29⟩) (.cons (.ci 0 ⟨239, 31, 239, 32⟩) (.cons (.v 10 ⟨239, 34, 239, 37⟩) (.cons (.v 11 ⟨239, 39, 239, 43⟩) .nil)))) ⟨239, 12, 239, 44⟩) (.cons (.cg "bisect_left" 32 ⟨239, 46, 239, 57⟩ (.cons (.v 9 ⟨239, 58, 239, 63⟩) (.cons (.ci 2 ⟨239, 65, 239, 66⟩) (.cons (.v 10 ⟨239, 68, 239, 71⟩) (.cons (.v 11 ⟨239, 73, 239, 77⟩) .nil)))) ⟨239, 46, 239, 78⟩) .nil)) ⟨239, 11, 239, 79⟩) (.ls false (.cons (.v 10 ⟨239, 84, 239, 87⟩) (.cons (.v 11 ⟨239, 89, 239, 93⟩) .nil)) ⟨239, 83, 239, 94⟩) ⟨239, 11, 239, 94⟩) b240 .nil ⟨239, 8, 240, 24⟩) b241
noncomputable def sc_c299 : Scope := {
                            kind := PySem.ScopeKind.function,
                            names := [
                              (PySem.Str.ofString ".0", PySem.NameKind.local),
                              (PySem.Str.ofString "choice", PySem.NameKind.local),
                              (PySem.Str.ofString "width", PySem.NameKind.free),
                              (PySem.Str.ofString "yes", PySem.NameKind.free)],
                            isGenerator := false,
                            isCoroutine := false,
                            more := [] : PySem.Scope }
noncomputable def cc_299 : CompI := { own := [("choice", .loc)], cap := [2, 5], globs := [], scope := sc_c299 }
noncomputable def b238 : MSs := .cons
  (.asg 11 ⟨238, 8, 238, 12⟩ (.cg "bisect_right" 23 ⟨238, 15, 238, 27⟩ (.cons (.comp cc_299 false (.bin .Mod (.bin .RShift (.v 2 ⟨238, 30, 238, 33⟩) (.bin .Mult (.v 1 ⟨238, 37, 238, 42⟩) (.v 0 ⟨238, 45, 238, 51⟩) ⟨238, 37, 238, 51⟩) ⟨238, 30, 238, 51⟩) (.ci 2 ⟨238, 55, 238, 56⟩) ⟨238, 29, 238, 56⟩) ⟨238, 61, 238, 67⟩ (.it (.v 7 ⟨238, 71, 238, 76⟩)) .nil ⟨238, 28, 238, 77⟩) (.cons (.ci 0 ⟨238, 79, 238, 80⟩) .nil)) ⟨238, 15, 238, 81⟩) ⟨238, 8, 238, 81⟩) b239
noncomputable def b237 : MSs := .cons
  (.asg 10 ⟨237, 8, 237, 11⟩ (.cg "bisect_left" 32 ⟨237, 14, 237, 25⟩ (.cons (.v 9 ⟨237, 26, 237, 31⟩) (.cons (.ci 1 ⟨237, 33, 237, 34⟩) .nil)) ⟨237, 14, 237, 35⟩) ⟨237, 8, 237, 35⟩) b238
noncomputable def sc_c302 : Scope := {
                        kind := PySem.ScopeKind.function,
                        names := [
                          (PySem.Str.ofString ".0", PySem.NameKind.local),
                          (PySem.Str.ofString "choice", PySem.NameKind.local),
                          (PySem.Str.ofString "no", PySem.NameKind.free),
                          (PySem.Str.ofString "width", PySem.NameKind.free)],
                        isGenerator := false,
                        isCoroutine := false,
                        more := [] : PySem.Scope }
noncomputable def cc_302 : CompI := { own := [("choice", .loc)], cap := [6, 2], globs := [], scope := sc_c302 }
noncomputable def b236 : MSs := .cons
  (.asg 9 ⟨236, 8, 236, 13⟩ (.comp cc_302 false (.bin .Sub (.ci 1 ⟨236, 17, 236, 18⟩) (.bin .Mod (.bin .RShift (.v 1 ⟨236, 22, 236, 24⟩) (.bin .Mult (.v 2 ⟨236, 28, 236, 33⟩) (.v 0 ⟨236, 36, 236, 42⟩) ⟨236, 28, 236, 42⟩) ⟨236, 22, 236, 42⟩) (.ci 2 ⟨236, 46, 236, 47⟩) ⟨236, 21, 236, 47⟩) ⟨236, 17, 236, 47⟩) ⟨236, 52, 236, 58⟩ (.it (.v 7 ⟨236, 62, 236, 67⟩)) .nil ⟨236, 16, 236, 68⟩) ⟨236, 8, 236, 68⟩) b237
noncomputable def b235 : MSs := .cons
  (.for_ 7 ⟨235, 8, 235, 13⟩ (.it (.cg "_law_chains" 100 ⟨235, 17, 235, 28⟩ .nil ⟨235, 17, 235, 30⟩)) b236 ⟨235, 4, 256, 44⟩) b257
noncomputable def b234 : MSs := .cons
  (.asg 24 ⟨234, 4, 234, 9⟩ (.ls true .nil ⟨234, 12, 234, 14⟩) ⟨234, 4, 234, 14⟩) b235
noncomputable def b233 : MSs := .cons
  (.asg 6 ⟨233, 4, 233, 6⟩ (.ci 0 ⟨233, 9, 233, 10⟩) ⟨233, 4, 233, 10⟩) b234
noncomputable def b232 : MSs := .cons
  (.asg 5 ⟨232, 4, 232, 7⟩ (.ci 0 ⟨232, 10, 232, 11⟩) ⟨232, 4, 232, 11⟩) b233
noncomputable def b231 : MSs := .cons
  (.asg 26 ⟨231, 4, 231, 8⟩ (.bin .Add (.slU (.ix (.v 25 ⟨231, 11, 231, 15⟩) (.bin .Add (.bin .Mod (.bin .Add (.v 1 ⟨231, 17, 231, 22⟩) (.ci 2 ⟨231, 25, 231, 26⟩) ⟨231, 17, 231, 26⟩) (.ci 31 ⟨231, 30, 231, 32⟩) ⟨231, 16, 231, 32⟩) (.ci 1 ⟨231, 35, 231, 36⟩) ⟨231, 16, 231, 36⟩) ⟨231, 11, 231, 37⟩) (.ci 2 ⟨231, 39, 231, 40⟩) ⟨231, 38, 231, 40⟩ ⟨231, 11, 231, 41⟩) (.ix (.ls false (.cons (.cs "" ⟨231, 45, 231, 47⟩) (.cons (.cs "" ⟨231, 49, 231, 51⟩) (.cons (.cs "A" ⟨231, 53, 231, 56⟩) .nil))) ⟨231, 44, 231, 57⟩) (.bin .Mod (.bin .FloorDiv (.v 1 ⟨231, 58, 231, 63⟩) (.ci 31 ⟨231, 67, 231, 69⟩) ⟨231, 58, 231, 69⟩) (.ci 3 ⟨231, 72, 231, 73⟩) ⟨231, 58, 231, 73⟩) ⟨231, 44, 231, 74⟩) ⟨231, 11, 231, 74⟩) ⟨231, 4, 231, 74⟩) b232
noncomputable def b230 : MSs := .cons
  (.asg 4 ⟨230, 4, 230, 9⟩ (.ix (.v 3 ⟨230, 12, 230, 17⟩) (.ci 31 ⟨230, 18, 230, 20⟩) ⟨230, 12, 230, 21⟩) ⟨230, 4, 230, 21⟩) b231
noncomputable def b229 : MSs := .cons
  (.asg 3 ⟨229, 4, 229, 9⟩ (.cg "_law_steps" 110 ⟨229, 12, 229, 22⟩ (.cons (.v 2 ⟨229, 23, 229, 28⟩) .nil) ⟨229, 12, 229, 29⟩) ⟨229, 4, 229, 29⟩) b230
noncomputable def b228 : MSs := .cons
  (.asg 25 ⟨228, 4, 228, 8⟩ (.cg "_law_held" 105 ⟨228, 11, 228, 20⟩ (.cons (.bin .Add (.slU (.v 0 ⟨228, 21, 228, 27⟩) (.ci 5 ⟨228, 29, 228, 30⟩) ⟨228, 28, 228, 30⟩ ⟨228, 21, 228, 31⟩) (.slL (.ls false (.cons (.ci 0 ⟨228, 35, 228, 36⟩) (.cons (.ci 1 ⟨228, 38, 228, 39⟩) (.cons (.ci 0 ⟨228, 41, 228, 42⟩) (.cons (.ci 2 ⟨228, 44, 228, 45⟩) (.cons (.ci 1 ⟨228, 47, 228, 48⟩) .nil))))) ⟨228, 34, 228, 49⟩) (.bi .len ⟨228, 50, 228, 53⟩ (.cons (.v 0 ⟨228, 54, 228, 60⟩) .nil) ⟨228, 50, 228, 61⟩) ⟨228, 50, 228, 62⟩ ⟨228, 34, 228, 63⟩) ⟨228, 21, 228, 63⟩) .nil) ⟨228, 11, 228, 64⟩) ⟨228, 4, 228, 64⟩) b229
noncomputable def b227 : MSs := .cons
  (.asg 2 ⟨227, 4, 227, 9⟩ (.ix (.ls false (.cons (.ci 1 ⟨227, 13, 227, 14⟩) (.cons (.ci 2 ⟨227, 16, 227, 17⟩) (.cons (.ci 3 ⟨227, 19, 227, 20⟩) (.cons (.ci 1 ⟨227, 22, 227, 23⟩) (.cons (.ci 600 ⟨227, 25, 227, 28⟩) (.cons (.ci 2 ⟨227, 30, 227, 31⟩) (.cons (.ci 3 ⟨227, 33, 227, 34⟩) (.cons (.ci 1 ⟨227, 36, 227, 37⟩) .nil)))))))) ⟨227, 12, 227, 38⟩) (.bin .Mod (.bin .FloorDiv (.v 1 ⟨227, 39, 227, 44⟩) (.ci 93 ⟨227, 48, 227, 50⟩) ⟨227, 39, 227, 50⟩) (.ci 8 ⟨227, 53, 227, 54⟩) ⟨227, 39, 227, 54⟩) ⟨227, 12, 227, 55⟩) ⟨227, 4, 227, 55⟩) b228
noncomputable def b226 : MSs := .cons
  (.asg 1 ⟨226, 4, 226, 9⟩ (.bi .sum ⟨226, 12, 226, 15⟩ (.cons (.v 0 ⟨226, 16, 226, 22⟩) .nil) ⟨226, 12, 226, 23⟩) ⟨226, 4, 226, 23⟩) b227
noncomputable def qc : MSs := b226
noncomputable def ar_law : Arguments := {
              posonlyargs := [],
              args := [{ arg := "script", annotation := none, pos := ⟨225, 8, 225, 14⟩ : PySem.Arg }],
              vararg := none,
              kwonlyargs := [],
              kw_defaults := [],
              kwarg := none,
              defaults := [] : PySem.Arguments }
noncomputable def theClos : Nat → CloD
  | 0 => clo_0
  | 1 => clo_1
  | 2 => clo_2
  | 3 => clo_3
  | _ => clo_4
end Mine
namespace Mine
noncomputable def bodyOf (n : Str) : List Stmt → List Stmt
  | [] => []
  | .FunctionDef m _ b _ _ _ _ _ _ _ :: r => if m == n then b else bodyOf n r
  | _ :: r => bodyOf n r
noncomputable abbrev theBody (n : Str) : List Stmt := bodyOf n PySem.Challenge.pw_tx0027_01.main.body
theorem body_bisect_right : theBody "bisect_right" = denSs ll oq := by kernel_rfl
theorem okb_bisect_right : okSs ll oq = true := by kernel_rfl
theorem body_bisect_left : theBody "bisect_left" = denSs kl nv := by kernel_rfl
theorem okb_bisect_left : okSs kl nv = true := by kernel_rfl
theorem body__div2n1n : theBody "_div2n1n" = denSs kj ot := by kernel_rfl
theorem okb__div2n1n : okSs kj ot = true := by kernel_rfl
theorem body__div3n2n : theBody "_div3n2n" = denSs lp ox := by kernel_rfl
theorem okb__div3n2n : okSs lp ox = true := by kernel_rfl
theorem body__int2digits : theBody "_int2digits" = denSs lz oz := by kernel_rfl
theorem okb__int2digits : okSs lz oz = true := by kernel_rfl
theorem body__digits2int : theBody "_digits2int" = denSs mh p7 := by kernel_rfl
theorem okb__digits2int : okSs mh p7 = true := by kernel_rfl
theorem body__divmod_pos : theBody "_divmod_pos" = denSs lr p9 := by kernel_rfl
theorem okb__divmod_pos : okSs lr p9 = true := by kernel_rfl
theorem body_int_divmod : theBody "int_divmod" = denSs mj nw := by kernel_rfl
theorem okb_int_divmod : okSs mj nw = true := by kernel_rfl
theorem body__ellipsis_match : theBody "_ellipsis_match" = denSs lu ou := by kernel_rfl
theorem okb__ellipsis_match : okSs lu ou = true := by kernel_rfl
theorem body__substitution_cost : theBody "_substitution_cost" = denSs mz pd := by kernel_rfl
theorem okb__substitution_cost : okSs mz pd = true := by kernel_rfl
theorem body__levenshtein_distance : theBody "_levenshtein_distance" = denSs ki pf := by kernel_rfl
theorem okb__levenshtein_distance : okSs ki pf = true := by kernel_rfl
theorem body__law_chains : theBody "_law_chains" = denSs ml ph := by kernel_rfl
theorem okb__law_chains : okSs ml ph = true := by kernel_rfl
theorem body__law_held : theBody "_law_held" = denSs mw pq := by kernel_rfl
theorem okb__law_held : okSs mw pq = true := by kernel_rfl
theorem body__law_steps : theBody "_law_steps" = denSs mx pr := by kernel_rfl
theorem okb__law_steps : okSs mx pr = true := by kernel_rfl
theorem body__law_price : theBody "_law_price" = denSs lx pv := by kernel_rfl
theorem okb__law_price : okSs lx pv = true := by kernel_rfl
theorem body__law_ask : theBody "_law_ask" = denSs mq px := by kernel_rfl
theorem okb__law_ask : okSs mq px = true := by kernel_rfl
theorem body_law : theBody "law" = denSs jc qc := by kernel_rfl
theorem okb_law : okSs jc qc = true := by kernel_rfl
end Mine
namespace Mine
structure FnS (G : Stat) (nm : Str) (a : Addr) (C : Ctx) (body : MSs) (ar : Arguments) (dv kv : Value) : Prop where
  glob : G.mg nm = some (.ref a) ∧ FnAt a G.B
  fn : GFn G a C body
  par : ∀ o fd, G.B.get? a = some o → o.data = .func fd → fd.params = ar ∧ fd.defaults = dv ∧ fd.kwdefaults = kv
structure SetOk (G : Stat) : Prop where
  st : StatOk G
  clo : G.clo = theClos
  tabs : G.tabs = [(52, 48, Str.ofString "_int2digits.<locals>.inner"), (59, 55, Str.ofString "_digits2int.<locals>.inner"), (99, 97, "_law_chains.<locals>.<lambda>"), (126, 124, Str.ofString "law.<locals>.<lambda>")]
  div_limit : ∃ t, G.mg "_DIV_LIMIT" = some (.int 4000 t)
  ellipsis : ∃ t, G.mg "ELLIPSIS_MARKER" = some (.str "..." t)
  max_size : ∃ t, G.mg "_MAX_STRING_SIZE" = some (.int 40 t)
  move : ∃ t, G.mg "_MOVE_COST" = some (.int 2 t)
  case : ∃ t, G.mg "_CASE_COST" = some (.int 1 t)
  dfl_r : ∃ o t n, G.B.get? 15 = some o ∧ o.data = .seq #[.int 0 t, .none] n
  kwd_r : ∃ o hs t n, G.B.get? 16 = some o ∧ o.data = .dict #[⟨hs, .str "key" t, .none⟩] n
  dfl_l : ∃ o t n, G.B.get? 24 = some o ∧ o.data = .seq #[.int 0 t, .none] n
  kwd_l : ∃ o hs t n, G.B.get? 25 = some o ∧ o.data = .dict #[⟨hs, .str "key" t, .none⟩] n
  f_bisect_right : FnS G "bisect_right" 23 ll oq ar_bisect_right (.ref 15) (.ref 16)
  f_bisect_left : FnS G "bisect_left" 32 kl nv ar_bisect_left (.ref 24) (.ref 25)
  f__div2n1n : FnS G "_div2n1n" 39 kj ot ar__div2n1n .none .none
  f__div3n2n : FnS G "_div3n2n" 46 lp ox ar__div3n2n .none .none
  f__int2digits : FnS G "_int2digits" 53 lz oz ar__int2digits .none .none
  f__digits2int : FnS G "_digits2int" 60 mh p7 ar__digits2int .none .none
  f__divmod_pos : FnS G "_divmod_pos" 67 lr p9 ar__divmod_pos .none .none
  f_int_divmod : FnS G "int_divmod" 74 mj nw ar_int_divmod .none .none
  f__ellipsis_match : FnS G "_ellipsis_match" 81 lu ou ar__ellipsis_match .none .none
  f__substitution_cost : FnS G "_substitution_cost" 88 mz pd ar__substitution_cost .none .none
  f__levenshtein_distance : FnS G "_levenshtein_distance" 95 ki pf ar__levenshtein_distance .none .none
  f__law_chains : FnS G "_law_chains" 100 ml ph ar__law_chains .none .none
  f__law_held : FnS G "_law_held" 105 mw pq ar__law_held .none .none
  f__law_steps : FnS G "_law_steps" 110 mx pr ar__law_steps .none .none
  f__law_price : FnS G "_law_price" 115 lx pv ar__law_price .none .none
  f__law_ask : FnS G "_law_ask" 122 mq px ar__law_ask .none .none
  f_law : FnS G "law" 127 jc qc ar_law .none .none
end Mine
namespace Mine
variable {G : Stat}
noncomputable def slotsOk (C : Ctx) (ns : List Str) : Bool := decide ns.Nodup && ns.all fun x => C.slots.any fun p => p.1 == x
theorem slotsOk_of {C : Ctx} {ns : List Str} (h : slotsOk C ns = true) : ns.Nodup ∧ ∀ x ∈ ns, ∃ (i : Nat) (k : SK), C.slots[i]? = some (x, k) := by
  unfold slotsOk at h
  rw [Bool.and_eq_true] at h
  refine ⟨of_decide_eq_true h.1, fun x hx => ?_⟩
  have := List.all_eq_true.mp h.2 x hx
  obtain ⟨p, hp, e⟩ := List.any_eq_true.mp this
  obtain ⟨i, hi⟩ := List.getElem?_of_mem hp
  have e2 : p.1 = x := by simpa using e
  exact ⟨i, p.2, by rw [hi, ← e2]⟩
theorem bindsA0 {nm : Str} {a : Addr} {C : Ctx} {body : MSs} {ar : Arguments} {kv : Value} (f : FnS G nm a C body ar .none kv)
    (hn : slotsOk C [] = true)
    (hr : ∀ (fd : FuncData), fd.params = ar → fd.defaults = .none → fd.kwdefaults = kv → bindArgs fd ⟨[], []⟩ = pure []) : Binds G a C [] [] [] := by
  refine ⟨slotsOk_of hn, fun o fd hB hd s X vs kvs _ ra rk => ?_⟩
  have : kvs = [] := rk
  subst this
  obtain ⟨p1, p2, p3⟩ := f.par o fd hB hd
  rw [vrs_nil ra]
  exact ⟨[], BindsTo.of_eq (hr fd  p1 p2 p3), rfl⟩
theorem bindsA1 {nm : Str} {a : Addr} {C : Ctx} {body : MSs} {ar : Arguments} {kv : Value} (f : FnS G nm a C body ar .none kv) {n0 : Str} (m0 : MV)
    (hn : slotsOk C [n0] = true)
    (hr : ∀ (fd : FuncData) (v0 : Value), fd.params = ar → fd.defaults = .none → fd.kwdefaults = kv → bindArgs fd ⟨[v0], []⟩ = pure [(n0, v0)]) : Binds G a C [m0] [] [(n0, m0)] := by
  refine ⟨slotsOk_of hn, fun o fd hB hd s X vs kvs _ ra rk => ?_⟩
  have : kvs = [] := rk
  subst this
  obtain ⟨p1, p2, p3⟩ := f.par o fd hB hd
  obtain ⟨v0, q0, rfl, r0, t0⟩ := vrs_cons ra
  rw [vrs_nil t0]
  exact ⟨[(n0, v0)], BindsTo.of_eq (hr fd v0 p1 p2 p3), ⟨v0, _, rfl, r0, rfl⟩⟩
theorem bindsA2 {nm : Str} {a : Addr} {C : Ctx} {body : MSs} {ar : Arguments} {kv : Value} (f : FnS G nm a C body ar .none kv) {n0 n1 : Str} (m0 m1 : MV)
    (hn : slotsOk C [n0, n1] = true)
    (hr : ∀ (fd : FuncData) (v0 v1 : Value), fd.params = ar → fd.defaults = .none → fd.kwdefaults = kv → bindArgs fd ⟨[v0, v1], []⟩ = pure [(n0, v0), (n1, v1)]) : Binds G a C [m0, m1] [] [(n0, m0), (n1, m1)] := by
  refine ⟨slotsOk_of hn, fun o fd hB hd s X vs kvs _ ra rk => ?_⟩
  have : kvs = [] := rk
  subst this
  obtain ⟨p1, p2, p3⟩ := f.par o fd hB hd
  obtain ⟨v0, q0, rfl, r0, t0⟩ := vrs_cons ra
  obtain ⟨v1, q1, rfl, r1, t1⟩ := vrs_cons t0
  rw [vrs_nil t1]
  exact ⟨[(n0, v0), (n1, v1)], BindsTo.of_eq (hr fd v0 v1 p1 p2 p3), ⟨v0, _, rfl, r0, ⟨v1, _, rfl, r1, rfl⟩⟩⟩
theorem bindsA3 {nm : Str} {a : Addr} {C : Ctx} {body : MSs} {ar : Arguments} {kv : Value} (f : FnS G nm a C body ar .none kv) {n0 n1 n2 : Str} (m0 m1 m2 : MV)
    (hn : slotsOk C [n0, n1, n2] = true)
    (hr : ∀ (fd : FuncData) (v0 v1 v2 : Value), fd.params = ar → fd.defaults = .none → fd.kwdefaults = kv → bindArgs fd ⟨[v0, v1, v2], []⟩ = pure [(n0, v0), (n1, v1), (n2, v2)]) : Binds G a C [m0, m1, m2] [] [(n0, m0), (n1, m1), (n2, m2)] := by
  refine ⟨slotsOk_of hn, fun o fd hB hd s X vs kvs _ ra rk => ?_⟩
  have : kvs = [] := rk
  subst this
  obtain ⟨p1, p2, p3⟩ := f.par o fd hB hd
  obtain ⟨v0, q0, rfl, r0, t0⟩ := vrs_cons ra
  obtain ⟨v1, q1, rfl, r1, t1⟩ := vrs_cons t0
  obtain ⟨v2, q2, rfl, r2, t2⟩ := vrs_cons t1
  rw [vrs_nil t2]
  exact ⟨[(n0, v0), (n1, v1), (n2, v2)], BindsTo.of_eq (hr fd v0 v1 v2 p1 p2 p3), ⟨v0, _, rfl, r0, ⟨v1, _, rfl, r1, ⟨v2, _, rfl, r2, rfl⟩⟩⟩⟩
theorem bindsA4 {nm : Str} {a : Addr} {C : Ctx} {body : MSs} {ar : Arguments} {kv : Value} (f : FnS G nm a C body ar .none kv) {n0 n1 n2 n3 : Str} (m0 m1 m2 m3 : MV)
    (hn : slotsOk C [n0, n1, n2, n3] = true)
    (hr : ∀ (fd : FuncData) (v0 v1 v2 v3 : Value), fd.params = ar → fd.defaults = .none → fd.kwdefaults = kv → bindArgs fd ⟨[v0, v1, v2, v3], []⟩ = pure [(n0, v0), (n1, v1), (n2, v2), (n3, v3)]) : Binds G a C [m0, m1, m2, m3] [] [(n0, m0), (n1, m1), (n2, m2), (n3, m3)] := by
  refine ⟨slotsOk_of hn, fun o fd hB hd s X vs kvs _ ra rk => ?_⟩
  have : kvs = [] := rk
  subst this
  obtain ⟨p1, p2, p3⟩ := f.par o fd hB hd
  obtain ⟨v0, q0, rfl, r0, t0⟩ := vrs_cons ra
  obtain ⟨v1, q1, rfl, r1, t1⟩ := vrs_cons t0
  obtain ⟨v2, q2, rfl, r2, t2⟩ := vrs_cons t1
  obtain ⟨v3, q3, rfl, r3, t3⟩ := vrs_cons t2
  rw [vrs_nil t3]
  exact ⟨[(n0, v0), (n1, v1), (n2, v2), (n3, v3)], BindsTo.of_eq (hr fd v0 v1 v2 v3 p1 p2 p3), ⟨v0, _, rfl, r0, ⟨v1, _, rfl, r1, ⟨v2, _, rfl, r2, ⟨v3, _, rfl, r3, rfl⟩⟩⟩⟩⟩
theorem bindsA6 {nm : Str} {a : Addr} {C : Ctx} {body : MSs} {ar : Arguments} {kv : Value} (f : FnS G nm a C body ar .none kv) {n0 n1 n2 n3 n4 n5 : Str} (m0 m1 m2 m3 m4 m5 : MV)
    (hn : slotsOk C [n0, n1, n2, n3, n4, n5] = true)
    (hr : ∀ (fd : FuncData) (v0 v1 v2 v3 v4 v5 : Value), fd.params = ar → fd.defaults = .none → fd.kwdefaults = kv → bindArgs fd ⟨[v0, v1, v2, v3, v4, v5], []⟩ = pure [(n0, v0), (n1, v1), (n2, v2), (n3, v3), (n4, v4), (n5, v5)]) : Binds G a C [m0, m1, m2, m3, m4, m5] [] [(n0, m0), (n1, m1), (n2, m2), (n3, m3), (n4, m4), (n5, m5)] := by
  refine ⟨slotsOk_of hn, fun o fd hB hd s X vs kvs _ ra rk => ?_⟩
  have : kvs = [] := rk
  subst this
  obtain ⟨p1, p2, p3⟩ := f.par o fd hB hd
  obtain ⟨v0, q0, rfl, r0, t0⟩ := vrs_cons ra
  obtain ⟨v1, q1, rfl, r1, t1⟩ := vrs_cons t0
  obtain ⟨v2, q2, rfl, r2, t2⟩ := vrs_cons t1
  obtain ⟨v3, q3, rfl, r3, t3⟩ := vrs_cons t2
  obtain ⟨v4, q4, rfl, r4, t4⟩ := vrs_cons t3
  obtain ⟨v5, q5, rfl, r5, t5⟩ := vrs_cons t4
  rw [vrs_nil t5]
  exact ⟨[(n0, v0), (n1, v1), (n2, v2), (n3, v3), (n4, v4), (n5, v5)], BindsTo.of_eq (hr fd v0 v1 v2 v3 v4 v5 p1 p2 p3), ⟨v0, _, rfl, r0, ⟨v1, _, rfl, r1, ⟨v2, _, rfl, r2, ⟨v3, _, rfl, r3, ⟨v4, _, rfl, r4, ⟨v5, _, rfl, r5, rfl⟩⟩⟩⟩⟩⟩⟩
theorem bd__div2n1n (S : SetOk G) (m0 m1 m2 : MV) : Binds G 39 kj [m0, m1, m2] [] [("a", m0), ("b", m1), ("n", m2)]  := by
  refine bindsA3 S.f__div2n1n m0 m1 m2 (by kernel_rfl) fun fd v0 v1 v2 h1 h2 h3 => ?_
  obtain ⟨n, q, ps, b, sc, g, cl, df, kd, doc, pm, an, cd, ct, bu⟩ := fd
  simp only at h1 h2 h3
  subst h1 h2 h3
  rfl
theorem bd__div3n2n (S : SetOk G) (m0 m1 m2 m3 m4 m5 : MV) : Binds G 46 lp [m0, m1, m2, m3, m4, m5] [] [("a12", m0), ("a3", m1), ("b", m2), ("b1", m3), ("b2", m4), ("n", m5)]  := by
  refine bindsA6 S.f__div3n2n m0 m1 m2 m3 m4 m5 (by kernel_rfl) fun fd v0 v1 v2 v3 v4 v5 h1 h2 h3 => ?_
  obtain ⟨n, q, ps, b, sc, g, cl, df, kd, doc, pm, an, cd, ct, bu⟩ := fd
  simp only at h1 h2 h3
  subst h1 h2 h3
  rfl
theorem bd__int2digits (S : SetOk G) (m0 m1 : MV) : Binds G 53 lz [m0, m1] [] [("a", m0), ("n", m1)]  := by
  refine bindsA2 S.f__int2digits m0 m1 (by kernel_rfl) fun fd v0 v1 h1 h2 h3 => ?_
  obtain ⟨n, q, ps, b, sc, g, cl, df, kd, doc, pm, an, cd, ct, bu⟩ := fd
  simp only at h1 h2 h3
  subst h1 h2 h3
  rfl
theorem bd__digits2int (S : SetOk G) (m0 m1 : MV) : Binds G 60 mh [m0, m1] [] [("digits", m0), ("n", m1)]  := by
  refine bindsA2 S.f__digits2int m0 m1 (by kernel_rfl) fun fd v0 v1 h1 h2 h3 => ?_
  obtain ⟨n, q, ps, b, sc, g, cl, df, kd, doc, pm, an, cd, ct, bu⟩ := fd
  simp only at h1 h2 h3
  subst h1 h2 h3
  rfl
theorem bd__divmod_pos (S : SetOk G) (m0 m1 : MV) : Binds G 67 lr [m0, m1] [] [("a", m0), ("b", m1)]  := by
  refine bindsA2 S.f__divmod_pos m0 m1 (by kernel_rfl) fun fd v0 v1 h1 h2 h3 => ?_
  obtain ⟨n, q, ps, b, sc, g, cl, df, kd, doc, pm, an, cd, ct, bu⟩ := fd
  simp only at h1 h2 h3
  subst h1 h2 h3
  rfl
theorem bd_int_divmod (S : SetOk G) (m0 m1 : MV) : Binds G 74 mj [m0, m1] [] [("a", m0), ("b", m1)]  := by
  refine bindsA2 S.f_int_divmod m0 m1 (by kernel_rfl) fun fd v0 v1 h1 h2 h3 => ?_
  obtain ⟨n, q, ps, b, sc, g, cl, df, kd, doc, pm, an, cd, ct, bu⟩ := fd
  simp only at h1 h2 h3
  subst h1 h2 h3
  rfl
theorem bd__ellipsis_match (S : SetOk G) (m0 m1 : MV) : Binds G 81 lu [m0, m1] [] [("want", m0), ("got", m1)]  := by
  refine bindsA2 S.f__ellipsis_match m0 m1 (by kernel_rfl) fun fd v0 v1 h1 h2 h3 => ?_
  obtain ⟨n, q, ps, b, sc, g, cl, df, kd, doc, pm, an, cd, ct, bu⟩ := fd
  simp only at h1 h2 h3
  subst h1 h2 h3
  rfl
theorem bd__substitution_cost (S : SetOk G) (m0 m1 : MV) : Binds G 88 mz [m0, m1] [] [("ch_a", m0), ("ch_b", m1)]  := by
  refine bindsA2 S.f__substitution_cost m0 m1 (by kernel_rfl) fun fd v0 v1 h1 h2 h3 => ?_
  obtain ⟨n, q, ps, b, sc, g, cl, df, kd, doc, pm, an, cd, ct, bu⟩ := fd
  simp only at h1 h2 h3
  subst h1 h2 h3
  rfl
theorem bd__levenshtein_distance (S : SetOk G) (m0 m1 m2 : MV) : Binds G 95 ki [m0, m1, m2] [] [("a", m0), ("b", m1), ("max_cost", m2)]  := by
  refine bindsA3 S.f__levenshtein_distance m0 m1 m2 (by kernel_rfl) fun fd v0 v1 v2 h1 h2 h3 => ?_
  obtain ⟨n, q, ps, b, sc, g, cl, df, kd, doc, pm, an, cd, ct, bu⟩ := fd
  simp only at h1 h2 h3
  subst h1 h2 h3
  rfl
theorem bd__law_chains (S : SetOk G) : Binds G 100 ml [] [] []  := by
  refine bindsA0 S.f__law_chains  (by kernel_rfl) fun fd  h1 h2 h3 => ?_
  obtain ⟨n, q, ps, b, sc, g, cl, df, kd, doc, pm, an, cd, ct, bu⟩ := fd
  simp only at h1 h2 h3
  subst h1 h2 h3
  rfl
theorem bd__law_held (S : SetOk G) (m0 : MV) : Binds G 105 mw [m0] [] [("numbers", m0)]  := by
  refine bindsA1 S.f__law_held m0 (by kernel_rfl) fun fd v0 h1 h2 h3 => ?_
  obtain ⟨n, q, ps, b, sc, g, cl, df, kd, doc, pm, an, cd, ct, bu⟩ := fd
  simp only at h1 h2 h3
  subst h1 h2 h3
  rfl
theorem bd__law_steps (S : SetOk G) (m0 : MV) : Binds G 110 mx [m0] [] [("width", m0)]  := by
  refine bindsA1 S.f__law_steps m0 (by kernel_rfl) fun fd v0 h1 h2 h3 => ?_
  obtain ⟨n, q, ps, b, sc, g, cl, df, kd, doc, pm, an, cd, ct, bu⟩ := fd
  simp only at h1 h2 h3
  subst h1 h2 h3
  rfl
theorem bd__law_price (S : SetOk G) (m0 m1 : MV) : Binds G 115 lx [m0, m1] [] [("one", m0), ("other", m1)]  := by
  refine bindsA2 S.f__law_price m0 m1 (by kernel_rfl) fun fd v0 v1 h1 h2 h3 => ?_
  obtain ⟨n, q, ps, b, sc, g, cl, df, kd, doc, pm, an, cd, ct, bu⟩ := fd
  simp only at h1 h2 h3
  subst h1 h2 h3
  rfl
theorem bd__law_ask (S : SetOk G) (m0 m1 m2 m3 : MV) : Binds G 122 mq [m0, m1, m2, m3] [] [("word", m0), ("held", m1), ("asked", m2), ("choice", m3)]  := by
  refine bindsA4 S.f__law_ask m0 m1 m2 m3 (by kernel_rfl) fun fd v0 v1 v2 v3 h1 h2 h3 => ?_
  obtain ⟨n, q, ps, b, sc, g, cl, df, kd, doc, pm, an, cd, ct, bu⟩ := fd
  simp only at h1 h2 h3
  subst h1 h2 h3
  rfl
theorem bd_law (S : SetOk G) (m0 : MV) : Binds G 127 jc [m0] [] [("script", m0)]  := by
  refine bindsA1 S.f_law m0 (by kernel_rfl) fun fd v0 h1 h2 h3 => ?_
  obtain ⟨n, q, ps, b, sc, g, cl, df, kd, doc, pm, an, cd, ct, bu⟩ := fd
  simp only at h1 h2 h3
  subst h1 h2 h3
  rfl
end Mine
namespace Mine
variable {G : Stat}
theorem slotsLoc {C : Ctx} {ns : List Str} (h : (decide ns.Nodup && ns.all fun x => C.slots.contains (x, .loc)) = true) : ns.Nodup ∧ ∀ x ∈ ns, ∃ (i : Nat), C.slots[i]? = some (x, .loc) := by
  rw [Bool.and_eq_true] at h
  refine ⟨of_decide_eq_true h.1, fun x hx => ?_⟩
  have := List.all_eq_true.mp h.2 x hx
  exact List.getElem?_of_mem (List.contains_iff_mem.mp this)
theorem bindsC1 {k : Nat} {C : Ctx} {n1 : Str} (m1 : MV) (hn : (decide [n1].Nodup && [n1].all fun x => C.slots.contains (x, .loc)) = true)
    (hr : ∀ (fd : FuncData) (v1 : Value), fd.params = (G.clo k).params → fd.defaults = .none → fd.kwdefaults = .none → bindArgs fd ⟨[v1], []⟩ = pure [(n1, v1)]) : BindsC G k C [m1] [(n1, m1)] := by
  refine ⟨slotsLoc hn, fun fd ok s X vs ra => ?_⟩
  obtain ⟨v1, q1, rfl, r1, t1⟩ := vrs_cons ra
  rw [vrs_nil t1]
  exact ⟨_, BindsTo.of_eq (hr fd v1 ok.params ok.defaults ok.kwd), ⟨v1, _, rfl, r1, rfl⟩⟩
theorem bindsC2 {k : Nat} {C : Ctx} {n1 n2 : Str} (m1 m2 : MV) (hn : (decide [n1, n2].Nodup && [n1, n2].all fun x => C.slots.contains (x, .loc)) = true)
    (hr : ∀ (fd : FuncData) (v1 v2 : Value), fd.params = (G.clo k).params → fd.defaults = .none → fd.kwdefaults = .none → bindArgs fd ⟨[v1, v2], []⟩ = pure [(n1, v1), (n2, v2)]) : BindsC G k C [m1, m2] [(n1, m1), (n2, m2)] := by
  refine ⟨slotsLoc hn, fun fd ok s X vs ra => ?_⟩
  obtain ⟨v1, q1, rfl, r1, t1⟩ := vrs_cons ra
  obtain ⟨v2, q2, rfl, r2, t2⟩ := vrs_cons t1
  rw [vrs_nil t2]
  exact ⟨_, BindsTo.of_eq (hr fd v1 v2 ok.params ok.defaults ok.kwd), ⟨v1, _, rfl, r1, v2, _, rfl, r2, rfl⟩⟩
theorem bindsC3 {k : Nat} {C : Ctx} {n1 n2 n3 : Str} (m1 m2 m3 : MV) (hn : (decide [n1, n2, n3].Nodup && [n1, n2, n3].all fun x => C.slots.contains (x, .loc)) = true)
    (hr : ∀ (fd : FuncData) (v1 v2 v3 : Value), fd.params = (G.clo k).params → fd.defaults = .none → fd.kwdefaults = .none → bindArgs fd ⟨[v1, v2, v3], []⟩ = pure [(n1, v1), (n2, v2), (n3, v3)]) : BindsC G k C [m1, m2, m3] [(n1, m1), (n2, m2), (n3, m3)] := by
  refine ⟨slotsLoc hn, fun fd ok s X vs ra => ?_⟩
  obtain ⟨v1, q1, rfl, r1, t1⟩ := vrs_cons ra
  obtain ⟨v2, q2, rfl, r2, t2⟩ := vrs_cons t1
  obtain ⟨v3, q3, rfl, r3, t3⟩ := vrs_cons t2
  rw [vrs_nil t3]
  exact ⟨_, BindsTo.of_eq (hr fd v1 v2 v3 ok.params ok.defaults ok.kwd), ⟨v1, _, rfl, r1, v2, _, rfl, r2, v3, _, rfl, r3, rfl⟩⟩
theorem bc_0 (S : SetOk G) (m1 m2 m3 : MV) : BindsC G 0 mf [m1, m2, m3] [("x", m1), ("L", m2), ("R", m3)] := by
  refine bindsC3 m1 m2 m3 (by kernel_rfl) fun fd v1 v2 v3 h1 h2 h3 => ?_
  obtain ⟨n, q, ps, b, sc, g, cl, df, kd, doc, pm, an, cd, ct, bu⟩ := fd
  simp only [S.clo, theClos] at h1 h2 h3
  subst h1 h2 h3
  rfl
theorem bc_1 (S : SetOk G) (m1 m2 : MV) : BindsC G 1 mv [m1, m2] [("L", m1), ("R", m2)] := by
  refine bindsC2 m1 m2 (by kernel_rfl) fun fd v1 v2 h1 h2 h3 => ?_
  obtain ⟨n, q, ps, b, sc, g, cl, df, kd, doc, pm, an, cd, ct, bu⟩ := fd
  simp only [S.clo, theClos] at h1 h2 h3
  subst h1 h2 h3
  rfl
theorem bc_3 (S : SetOk G) (m1 : MV) : BindsC G 3 py [m1] [("choice", m1)] := by
  refine bindsC1 m1 (by kernel_rfl) fun fd v1 h1 h2 h3 => ?_
  obtain ⟨n, q, ps, b, sc, g, cl, df, kd, doc, pm, an, cd, ct, bu⟩ := fd
  simp only [S.clo, theClos] at h1 h2 h3
  subst h1 h2 h3
  rfl
theorem bc_4 (S : SetOk G) (m1 : MV) : BindsC G 4 qa [m1] [("choice", m1)] := by
  refine bindsC1 m1 (by kernel_rfl) fun fd v1 h1 h2 h3 => ?_
  obtain ⟨n, q, ps, b, sc, g, cl, df, kd, doc, pm, an, cd, ct, bu⟩ := fd
  simp only [S.clo, theClos] at h1 h2 h3
  subst h1 h2 h3
  rfl
theorem gclo_of (S : SetOk G) {k : Nat} {C : Ctx} {D : CloD} (hk : theClos k = D) (h1 : ctxOk C D.scope = true) (h2 : C.qual = D.qual ++ ".<locals>.") (h3 : C.code = none) (h4 : (C.slots.all fun p => p.2 == .fr || p.2 == .loc) = true)
    (h5 : (D.scope.names.all fun p => p.2 != .cell) = true) (h6 : (C.slots.all fun p => p.2 != .fr || D.free.contains p.1 || D.self == some p.1) = true) (h7 : (match D.self with | some x => !D.free.contains x | none => true) = true) (h8 : decide D.free.Nodup = true) : GClo G k C := by
  have e : G.clo k = D := by rw [S.clo]; exact hk
  refine ⟨by rw [e]; exact h1, by rw [e]; exact h2, h3, h4, by rw [e]; exact h5, by rw [e]; exact h6, fun x hx m => ?_, by rw [e]; exact of_decide_eq_true h8⟩
  rw [e] at hx m
  rw [hx] at h7
  have : D.free.contains x = true := List.contains_iff_mem.mpr m
  simp only [this] at h7; cases h7
theorem gc_0 (S : SetOk G) : GClo G 0 mf := gclo_of S (D := clo_0) rfl (by kernel_rfl) (by kernel_rfl) rfl (by kernel_rfl) (by kernel_rfl) (by kernel_rfl) (by kernel_rfl) (by kernel_rfl)
theorem gc_1 (S : SetOk G) : GClo G 1 mv := gclo_of S (D := clo_1) rfl (by kernel_rfl) (by kernel_rfl) rfl (by kernel_rfl) (by kernel_rfl) (by kernel_rfl) (by kernel_rfl) (by kernel_rfl)
theorem gc_3 (S : SetOk G) : GClo G 3 py := gclo_of S (D := clo_3) rfl (by kernel_rfl) (by kernel_rfl) rfl (by kernel_rfl) (by kernel_rfl) (by kernel_rfl) (by kernel_rfl) (by kernel_rfl)
theorem gc_4 (S : SetOk G) : GClo G 4 qa := gclo_of S (D := clo_4) rfl (by kernel_rfl) (by kernel_rfl) rfl (by kernel_rfl) (by kernel_rfl) (by kernel_rfl) (by kernel_rfl) (by kernel_rfl)
noncomputable def cloOkB (C : Ctx) (slf : Option Str) (sc : Scope) (cap : List Nat) : Bool :=
  cap.all (fun i => match C.slots[i]? with | some (_, .cc) => true | _ => false) && (freeNames sc).all (fun x => (cap.map C.nm).contains x || slf == some x) && (cap.map C.nm).all (fun x => (freeNames sc).contains x) && (match slf with | some x => (freeNames sc).contains x | none => true)
theorem cloOk_of (S : SetOk G) {C : Ctx} {k : Nat} {slf : Option Str} {name : Str} {ar : Arguments} {b : FuncBody} {sc : Scope} {cap : List Nat}
    (h1 : theClos k = { name := name, qual := C.qual ++ name, params := ar, body := b, scope := sc, self := slf, free := cap.map C.nm }) (h2 : cloOkB C slf sc cap = true) {c P : Addr} (h3 : C.code = some c) (h4 : (c, P, C.qual ++ name) ∈ G.tabs)
    (h5 : ar.defaults = [] ∧ ar.kw_defaults = [] ∧ ar.posonlyargs = [] ∧ ar.vararg = none ∧ ar.kwonlyargs = [] ∧ ar.kwarg = none ∧ (∀ a ∈ ar.args, a.annotation = none)) : CloOk G C k slf name ar b sc cap := by
  unfold cloOkB at h2
  simp only [Bool.and_eq_true] at h2
  obtain ⟨⟨⟨q1, q2⟩, q3⟩, q4⟩ := h2
  refine ⟨by rw [S.clo]; exact h1, fun i hi => ?_, fun x hx => ?_, fun x hx => ?_, ⟨c, P, h3, h4⟩, h5⟩
  · have := List.all_eq_true.mp q1 i hi
    split at this
    · rename_i x e; exact ⟨x, e⟩
    · cases this
  · have := List.all_eq_true.mp q2 x hx
    rw [Bool.or_eq_true] at this
    rcases this with q | q
    · exact .inl (List.contains_iff_mem.mp q)
    · exact .inr (by simpa using q)
  · rcases hx with hx | hx
    · exact List.contains_iff_mem.mp (List.all_eq_true.mp q3 x hx)
    · rw [hx] at q4; exact List.contains_iff_mem.mp q4
theorem co_0 (S : SetOk G) : CloOk G lz 0 (some (lz.nm 3)) (lz.nm 3) ar_0 (.stmts db_0) sc_0 cap_0 :=
  cloOk_of S (c := 52) (P := 48) (by rfl) (by kernel_rfl) rfl (by rw [S.tabs]; exact .head _) (by refine ⟨rfl, rfl, rfl, rfl, rfl, rfl, ?_⟩; decide)
theorem co_1 (S : SetOk G) : CloOk G mh 1 (some (mh.nm 2)) (mh.nm 2) ar_1 (.stmts db_1) sc_1 cap_1 :=
  cloOk_of S (c := 59) (P := 55) (by rfl) (by kernel_rfl) rfl (by rw [S.tabs]; exact .tail _ (.head _)) (by refine ⟨rfl, rfl, rfl, rfl, rfl, rfl, ?_⟩; decide)
theorem co_2 (S : SetOk G) : CloOk G ml 2 none "<lambda>" ar_2 (.expr lb_2) sc_2 cap_2 :=
  cloOk_of S (c := 99) (P := 97) (by rfl) (by kernel_rfl) rfl (by rw [S.tabs]; exact .tail _ (.tail _ (.head _))) (by refine ⟨rfl, rfl, rfl, rfl, rfl, rfl, ?_⟩; decide)
theorem co_3 (S : SetOk G) : CloOk G jc 3 none "<lambda>" ar_3 (.expr lb_3) sc_3 cap_3 :=
  cloOk_of S (c := 126) (P := 124) (by rfl) (by kernel_rfl) rfl (by rw [S.tabs]; exact .tail _ (.tail _ (.tail _ (.head _)))) (by refine ⟨rfl, rfl, rfl, rfl, rfl, rfl, ?_⟩; decide)
theorem co_4 (S : SetOk G) : CloOk G jc 4 none "<lambda>" ar_4 (.expr lb_4) sc_4 cap_4 :=
  cloOk_of S (c := 126) (P := 124) (by rfl) (by kernel_rfl) rfl (by rw [S.tabs]; exact .tail _ (.tail _ (.tail _ (.head _)))) (by refine ⟨rfl, rfl, rfl, rfl, rfl, rfl, ?_⟩; decide)
end Mine
namespace Mine
variable {G : Stat}
theorem wpAny_loadK {α : Type} {M : Model} {A : Around} {s : Shared} {E : Value → Shared → Prop} {Q : α → Shared → Prop} {a : Addr} {part : Option Value} {k : Obj → Sem α} {o : Obj} (ho : s.heap.get? a = some o) (h : wpAny M A (k o) Q E s) : wpAny M A (Sem.load a part k) Q E s :=
  show wpAny M A (loadPart a part >>= k) Q E s from wpAny_bind (wpAny_loadPart ho h)
theorem bd_bisect_right2 (S : SetOk G) (m0 m1 : MV) : Binds G 23 ll [m0, m1] [] [("a", m0), ("x", m1), ("lo", .int 0), ("hi", .none), ("key", .none)] := by
  refine ⟨slotsOk_of (by kernel_rfl), fun o fd hB hd s X vs kvs I0 ra rk => ?_⟩
  have : kvs = [] := rk
  subst this
  obtain ⟨p1, p2, p3⟩ := S.f_bisect_right.par o fd hB hd
  obtain ⟨v0, q0, rfl, r0, t0⟩ := vrs_cons ra
  obtain ⟨v1, q1, rfl, r1, t1⟩ := vrs_cons t0
  rw [vrs_nil t1]
  obtain ⟨od, t, n, hod, hdd⟩ := S.dfl_r
  obtain ⟨⟨c5, d5, dt5, s5⟩, hs, tk, n5, hok, hkd⟩ := S.kwd_r
  obtain ⟨n', q, ps, b, sc, g, cl, df, kd, doc, pm, an, cd, ct, bu⟩ := fd
  simp only at p1 p2 p3 hkd
  subst p1 p2 p3 hkd
  refine ⟨[("a", v0), ("x", v1), ("lo", .int 0 t), ("hi", .none), ("key", .none)], fun M A E Q hq => ?_, ⟨v0, _, rfl, r0, v1, _, rfl, r1, .int 0 t, _, rfl, ⟨t, rfl⟩, .none, _, rfl, rfl, .none, _, rfl, rfl, rfl⟩⟩
  show wpAny M A (seqItems? (.ref 15) >>= _) Q E s
  refine wpAny_bind (wpAny_seqItems (I0 _ _ hod) hdd ?_)
  exact wpAny_loadK (I0 _ _ hok) (wpAny_pure hq)
theorem bd_bisect_right4 (S : SetOk G) (m0 m1 m2 m3 : MV) : Binds G 23 ll [m0, m1, m2, m3] [] [("a", m0), ("x", m1), ("lo", m2), ("hi", m3), ("key", .none)] := by
  refine ⟨slotsOk_of (by kernel_rfl), fun o fd hB hd s X vs kvs I0 ra rk => ?_⟩
  have : kvs = [] := rk
  subst this
  obtain ⟨p1, p2, p3⟩ := S.f_bisect_right.par o fd hB hd
  obtain ⟨v0, q0, rfl, r0, t0⟩ := vrs_cons ra
  obtain ⟨v1, q1, rfl, r1, t1⟩ := vrs_cons t0
  obtain ⟨v2, q2, rfl, r2, t2⟩ := vrs_cons t1
  obtain ⟨v3, q3, rfl, r3, t3⟩ := vrs_cons t2
  rw [vrs_nil t3]
  obtain ⟨od, t, n, hod, hdd⟩ := S.dfl_r
  obtain ⟨⟨c5, d5, dt5, s5⟩, hs, tk, n5, hok, hkd⟩ := S.kwd_r
  obtain ⟨n', q, ps, b, sc, g, cl, df, kd, doc, pm, an, cd, ct, bu⟩ := fd
  simp only at p1 p2 p3 hkd
  subst p1 p2 p3 hkd
  refine ⟨[("a", v0), ("x", v1), ("lo", v2), ("hi", v3), ("key", .none)], fun M A E Q hq => ?_, ⟨v0, _, rfl, r0, v1, _, rfl, r1, v2, _, rfl, r2, v3, _, rfl, r3, .none, _, rfl, rfl, rfl⟩⟩
  show wpAny M A (seqItems? (.ref 15) >>= _) Q E s
  refine wpAny_bind (wpAny_seqItems (I0 _ _ hod) hdd ?_)
  exact wpAny_loadK (I0 _ _ hok) (wpAny_pure hq)
theorem bd_bisect_rightk (S : SetOk G) (m0 m1 m2 m3 m4 : MV) : Binds G 23 ll [m0, m1, m2, m3] [("key", m4)] [("a", m0), ("x", m1), ("lo", m2), ("hi", m3), ("key", m4)] := by
  refine ⟨slotsOk_of (by kernel_rfl), fun o fd hB hd s X vs kvs I0 ra rk => ?_⟩
  obtain ⟨v4, q4, rfl, r4, t4⟩ := rk
  have : q4 = [] := t4
  subst this
  obtain ⟨p1, p2, p3⟩ := S.f_bisect_right.par o fd hB hd
  obtain ⟨v0, q0, rfl, r0, t0⟩ := vrs_cons ra
  obtain ⟨v1, q1, rfl, r1, t1⟩ := vrs_cons t0
  obtain ⟨v2, q2, rfl, r2, t2⟩ := vrs_cons t1
  obtain ⟨v3, q3, rfl, r3, t3⟩ := vrs_cons t2
  rw [vrs_nil t3]
  obtain ⟨od, t, n, hod, hdd⟩ := S.dfl_r
  obtain ⟨n', q, ps, b, sc, g, cl, df, kd, doc, pm, an, cd, ct, bu⟩ := fd
  simp only at p1 p2 p3
  subst p1 p2 p3
  refine ⟨[("a", v0), ("x", v1), ("lo", v2), ("hi", v3), ("key", v4)], fun M A E Q hq => ?_, ⟨v0, _, rfl, r0, v1, _, rfl, r1, v2, _, rfl, r2, v3, _, rfl, r3, v4, _, rfl, r4, rfl⟩⟩
  show wpAny M A (seqItems? (.ref 15) >>= _) Q E s
  refine wpAny_bind (wpAny_seqItems (I0 _ _ hod) hdd ?_)
  exact wpAny_pure hq
theorem bd_bisect_left2 (S : SetOk G) (m0 m1 : MV) : Binds G 32 kl [m0, m1] [] [("a", m0), ("x", m1), ("lo", .int 0), ("hi", .none), ("key", .none)] := by
  refine ⟨slotsOk_of (by kernel_rfl), fun o fd hB hd s X vs kvs I0 ra rk => ?_⟩
  have : kvs = [] := rk
  subst this
  obtain ⟨p1, p2, p3⟩ := S.f_bisect_left.par o fd hB hd
  obtain ⟨v0, q0, rfl, r0, t0⟩ := vrs_cons ra
  obtain ⟨v1, q1, rfl, r1, t1⟩ := vrs_cons t0
  rw [vrs_nil t1]
  obtain ⟨od, t, n, hod, hdd⟩ := S.dfl_l
  obtain ⟨⟨c5, d5, dt5, s5⟩, hs, tk, n5, hok, hkd⟩ := S.kwd_l
  obtain ⟨n', q, ps, b, sc, g, cl, df, kd, doc, pm, an, cd, ct, bu⟩ := fd
  simp only at p1 p2 p3 hkd
  subst p1 p2 p3 hkd
  refine ⟨[("a", v0), ("x", v1), ("lo", .int 0 t), ("hi", .none), ("key", .none)], fun M A E Q hq => ?_, ⟨v0, _, rfl, r0, v1, _, rfl, r1, .int 0 t, _, rfl, ⟨t, rfl⟩, .none, _, rfl, rfl, .none, _, rfl, rfl, rfl⟩⟩
  show wpAny M A (seqItems? (.ref 24) >>= _) Q E s
  refine wpAny_bind (wpAny_seqItems (I0 _ _ hod) hdd ?_)
  exact wpAny_loadK (I0 _ _ hok) (wpAny_pure hq)
theorem bd_bisect_left4 (S : SetOk G) (m0 m1 m2 m3 : MV) : Binds G 32 kl [m0, m1, m2, m3] [] [("a", m0), ("x", m1), ("lo", m2), ("hi", m3), ("key", .none)] := by
  refine ⟨slotsOk_of (by kernel_rfl), fun o fd hB hd s X vs kvs I0 ra rk => ?_⟩
  have : kvs = [] := rk
  subst this
  obtain ⟨p1, p2, p3⟩ := S.f_bisect_left.par o fd hB hd
  obtain ⟨v0, q0, rfl, r0, t0⟩ := vrs_cons ra
  obtain ⟨v1, q1, rfl, r1, t1⟩ := vrs_cons t0
  obtain ⟨v2, q2, rfl, r2, t2⟩ := vrs_cons t1
  obtain ⟨v3, q3, rfl, r3, t3⟩ := vrs_cons t2
  rw [vrs_nil t3]
  obtain ⟨od, t, n, hod, hdd⟩ := S.dfl_l
  obtain ⟨⟨c5, d5, dt5, s5⟩, hs, tk, n5, hok, hkd⟩ := S.kwd_l
  obtain ⟨n', q, ps, b, sc, g, cl, df, kd, doc, pm, an, cd, ct, bu⟩ := fd
  simp only at p1 p2 p3 hkd
  subst p1 p2 p3 hkd
  refine ⟨[("a", v0), ("x", v1), ("lo", v2), ("hi", v3), ("key", .none)], fun M A E Q hq => ?_, ⟨v0, _, rfl, r0, v1, _, rfl, r1, v2, _, rfl, r2, v3, _, rfl, r3, .none, _, rfl, rfl, rfl⟩⟩
  show wpAny M A (seqItems? (.ref 24) >>= _) Q E s
  refine wpAny_bind (wpAny_seqItems (I0 _ _ hod) hdd ?_)
  exact wpAny_loadK (I0 _ _ hok) (wpAny_pure hq)
theorem bd_bisect_leftk (S : SetOk G) (m0 m1 m2 m3 m4 : MV) : Binds G 32 kl [m0, m1, m2, m3] [("key", m4)] [("a", m0), ("x", m1), ("lo", m2), ("hi", m3), ("key", m4)] := by
  refine ⟨slotsOk_of (by kernel_rfl), fun o fd hB hd s X vs kvs I0 ra rk => ?_⟩
  obtain ⟨v4, q4, rfl, r4, t4⟩ := rk
  have : q4 = [] := t4
  subst this
  obtain ⟨p1, p2, p3⟩ := S.f_bisect_left.par o fd hB hd
  obtain ⟨v0, q0, rfl, r0, t0⟩ := vrs_cons ra
  obtain ⟨v1, q1, rfl, r1, t1⟩ := vrs_cons t0
  obtain ⟨v2, q2, rfl, r2, t2⟩ := vrs_cons t1
  obtain ⟨v3, q3, rfl, r3, t3⟩ := vrs_cons t2
  rw [vrs_nil t3]
  obtain ⟨od, t, n, hod, hdd⟩ := S.dfl_l
  obtain ⟨n', q, ps, b, sc, g, cl, df, kd, doc, pm, an, cd, ct, bu⟩ := fd
  simp only at p1 p2 p3
  subst p1 p2 p3
  refine ⟨[("a", v0), ("x", v1), ("lo", v2), ("hi", v3), ("key", v4)], fun M A E Q hq => ?_, ⟨v0, _, rfl, r0, v1, _, rfl, r1, v2, _, rfl, r2, v3, _, rfl, r3, v4, _, rfl, r4, rfl⟩⟩
  show wpAny M A (seqItems? (.ref 24) >>= _) Q E s
  refine wpAny_bind (wpAny_seqItems (I0 _ _ hod) hdd ?_)
  exact wpAny_pure hq
end Mine
namespace Mine
variable {l : Loc}
theorem setOk_t {C : Ctx} {i : Nat} (h : (match C.slots[i]? with | some (_, .loc) => true | some (_, .nc) => true | _ => false) = true) : setOk C l i = True := by
  refine eq_true ?_
  unfold setOk
  split at h
  · rename_i x e; exact ⟨x, _, e, .inl rfl⟩
  · rename_i x e; exact ⟨x, _, e, .inr (.inl rfl)⟩
  · cases h
theorem setOk_c {C : Ctx} {i : Nat} (h : (match C.slots[i]? with | some (_, .cc) => true | _ => false) = true) : setOk C l i = (l[i]? = some none) := by
  unfold setOk
  split at h
  · rename_i x e
    refine propext ⟨fun ⟨x', k', e', hk⟩ => ?_, fun q => ⟨x, _, e, .inr (.inr ⟨rfl, q⟩)⟩⟩
    rw [e] at e'; cases e'
    rcases hk with hk | hk | ⟨_, hk⟩
    · cases hk
    · cases hk
    · exact hk
  · cases h
theorem n6 : setOk ll l 0 = True := setOk_t (by kernel_rfl)
theorem n7 : setOk ll l 1 = True := setOk_t (by kernel_rfl)
theorem na : setOk ll l 2 = True := setOk_t (by kernel_rfl)
theorem nf : setOk ll l 3 = True := setOk_t (by kernel_rfl)
theorem ng : setOk ll l 4 = True := setOk_t (by kernel_rfl)
theorem nh : setOk ll l 5 = True := setOk_t (by kernel_rfl)
theorem ni : setOk kl l 0 = True := setOk_t (by kernel_rfl)
theorem nj : setOk kl l 1 = True := setOk_t (by kernel_rfl)
theorem nl : setOk kl l 2 = True := setOk_t (by kernel_rfl)
theorem np : setOk kl l 3 = True := setOk_t (by kernel_rfl)
theorem nq : setOk kl l 4 = True := setOk_t (by kernel_rfl)
theorem nu : setOk kl l 5 = True := setOk_t (by kernel_rfl)
theorem nx : setOk kj l 0 = True := setOk_t (by kernel_rfl)
theorem ny : setOk kj l 1 = True := setOk_t (by kernel_rfl)
theorem nz : setOk kj l 2 = True := setOk_t (by kernel_rfl)
theorem o0 : setOk kj l 3 = True := setOk_t (by kernel_rfl)
theorem o3 : setOk kj l 4 = True := setOk_t (by kernel_rfl)
theorem o4 : setOk kj l 5 = True := setOk_t (by kernel_rfl)
theorem o5 : setOk kj l 6 = True := setOk_t (by kernel_rfl)
theorem o6 : setOk kj l 7 = True := setOk_t (by kernel_rfl)
theorem o7 : setOk kj l 8 = True := setOk_t (by kernel_rfl)
theorem o8 : setOk kj l 9 = True := setOk_t (by kernel_rfl)
theorem o9 : setOk kj l 10 = True := setOk_t (by kernel_rfl)
theorem qw : setOk lp l 0 = True := setOk_t (by kernel_rfl)
theorem qx : setOk lp l 1 = True := setOk_t (by kernel_rfl)
theorem qy : setOk lp l 2 = True := setOk_t (by kernel_rfl)
theorem qz : setOk lp l 3 = True := setOk_t (by kernel_rfl)
theorem r7 : setOk lp l 4 = True := setOk_t (by kernel_rfl)
theorem r8 : setOk lp l 5 = True := setOk_t (by kernel_rfl)
theorem r9 : setOk lp l 6 = True := setOk_t (by kernel_rfl)
theorem rd : setOk lp l 7 = True := setOk_t (by kernel_rfl)
theorem wy : setOk lz l 0 = True := setOk_t (by kernel_rfl)
theorem xa : setOk lz l 1 = (l[1]? = some none) := setOk_c (by kernel_rfl)
theorem xb : setOk lz l 2 = (l[2]? = some none) := setOk_c (by kernel_rfl)
theorem xe : setOk lz l 3 = (l[3]? = some none) := setOk_c (by kernel_rfl)
theorem s8 : setOk mf l 0 = True := setOk_t (by kernel_rfl)
theorem s9 : setOk mf l 1 = True := setOk_t (by kernel_rfl)
theorem sa : setOk mf l 2 = True := setOk_t (by kernel_rfl)
theorem sd : setOk mf l 3 = True := setOk_t (by kernel_rfl)
theorem se : setOk mf l 4 = True := setOk_t (by kernel_rfl)
theorem sh : setOk mf l 5 = True := setOk_t (by kernel_rfl)
theorem si : setOk mf l 6 = True := setOk_t (by kernel_rfl)
theorem zj : setOk mh l 0 = (l[0]? = some none) := setOk_c (by kernel_rfl)
theorem zk : setOk mh l 1 = (l[1]? = some none) := setOk_c (by kernel_rfl)
theorem zl : setOk mh l 2 = (l[2]? = some none) := setOk_c (by kernel_rfl)
theorem sj : setOk mv l 0 = True := setOk_t (by kernel_rfl)
theorem sk : setOk mv l 1 = True := setOk_t (by kernel_rfl)
theorem sm : setOk mv l 2 = True := setOk_t (by kernel_rfl)
theorem sn : setOk mv l 3 = True := setOk_t (by kernel_rfl)
theorem oa : setOk lr l 0 = True := setOk_t (by kernel_rfl)
theorem oe : setOk lr l 1 = True := setOk_t (by kernel_rfl)
theorem og : setOk lr l 2 = True := setOk_t (by kernel_rfl)
theorem oh : setOk lr l 3 = True := setOk_t (by kernel_rfl)
theorem oi : setOk lr l 4 = True := setOk_t (by kernel_rfl)
theorem oj : setOk lr l 5 = True := setOk_t (by kernel_rfl)
theorem ol : setOk lr l 6 = True := setOk_t (by kernel_rfl)
theorem om : setOk lr l 7 = True := setOk_t (by kernel_rfl)
theorem oo : setOk lr l 8 = True := setOk_t (by kernel_rfl)
theorem so : setOk mj l 0 = True := setOk_t (by kernel_rfl)
theorem sp : setOk mj l 1 = True := setOk_t (by kernel_rfl)
theorem sq : setOk mj l 2 = True := setOk_t (by kernel_rfl)
theorem sr : setOk mj l 3 = True := setOk_t (by kernel_rfl)
theorem m6 : setOk lu l 0 = True := setOk_t (by kernel_rfl)
theorem m7 : setOk lu l 1 = True := setOk_t (by kernel_rfl)
theorem m8 : setOk lu l 2 = True := setOk_t (by kernel_rfl)
theorem m9 : setOk lu l 3 = True := setOk_t (by kernel_rfl)
theorem mc : setOk lu l 4 = True := setOk_t (by kernel_rfl)
theorem me : setOk lu l 5 = True := setOk_t (by kernel_rfl)
theorem zm : setOk mz l 0 = True := setOk_t (by kernel_rfl)
theorem zn : setOk mz l 1 = True := setOk_t (by kernel_rfl)
theorem km : setOk ki l 0 = True := setOk_t (by kernel_rfl)
theorem kr : setOk ki l 1 = True := setOk_t (by kernel_rfl)
theorem ku : setOk ki l 2 = True := setOk_t (by kernel_rfl)
theorem l5 : setOk ki l 3 = True := setOk_t (by kernel_rfl)
theorem l6 : setOk ki l 4 = True := setOk_t (by kernel_rfl)
theorem l8 : setOk ki l 5 = True := setOk_t (by kernel_rfl)
theorem l9 : setOk ki l 6 = True := setOk_t (by kernel_rfl)
theorem la : setOk ki l 7 = True := setOk_t (by kernel_rfl)
theorem lb : setOk ki l 8 = True := setOk_t (by kernel_rfl)
theorem ld : setOk ki l 9 = True := setOk_t (by kernel_rfl)
theorem le : setOk ki l 10 = True := setOk_t (by kernel_rfl)
theorem lg : setOk ki l 11 = True := setOk_t (by kernel_rfl)
theorem li : setOk ki l 12 = True := setOk_t (by kernel_rfl)
theorem lj : setOk ki l 13 = True := setOk_t (by kernel_rfl)
theorem qf : setOk ml l 0 = True := setOk_t (by kernel_rfl)
theorem qg : setOk ml l 1 = True := setOk_t (by kernel_rfl)
theorem qh : setOk ml l 2 = True := setOk_t (by kernel_rfl)
theorem qi : setOk ml l 3 = True := setOk_t (by kernel_rfl)
theorem zo : setOk pg l 0 = True := setOk_t (by kernel_rfl)
theorem su : setOk mw l 0 = True := setOk_t (by kernel_rfl)
theorem sv : setOk mw l 1 = True := setOk_t (by kernel_rfl)
theorem sw : setOk mw l 2 = True := setOk_t (by kernel_rfl)
theorem sx : setOk mx l 0 = True := setOk_t (by kernel_rfl)
theorem sy : setOk mx l 1 = True := setOk_t (by kernel_rfl)
theorem sz : setOk mx l 2 = True := setOk_t (by kernel_rfl)
theorem qj : setOk lx l 0 = True := setOk_t (by kernel_rfl)
theorem qk : setOk lx l 1 = True := setOk_t (by kernel_rfl)
theorem qm : setOk lx l 2 = True := setOk_t (by kernel_rfl)
theorem qn : setOk lx l 3 = True := setOk_t (by kernel_rfl)
theorem qo : setOk lx l 4 = True := setOk_t (by kernel_rfl)
theorem qp : setOk lx l 5 = True := setOk_t (by kernel_rfl)
theorem qq : setOk lx l 6 = True := setOk_t (by kernel_rfl)
theorem zp : setOk mq l 0 = True := setOk_t (by kernel_rfl)
theorem zq : setOk mq l 1 = True := setOk_t (by kernel_rfl)
theorem zr : setOk mq l 2 = True := setOk_t (by kernel_rfl)
theorem zt : setOk mq l 3 = True := setOk_t (by kernel_rfl)
theorem jd : setOk jc l 0 = True := setOk_t (by kernel_rfl)
theorem je : setOk jc l 1 = True := setOk_t (by kernel_rfl)
theorem jf : setOk jc l 2 = True := setOk_t (by kernel_rfl)
theorem jg : setOk jc l 3 = True := setOk_t (by kernel_rfl)
theorem jh : setOk jc l 4 = True := setOk_t (by kernel_rfl)
theorem ji : setOk jc l 5 = True := setOk_t (by kernel_rfl)
theorem jj : setOk jc l 6 = True := setOk_t (by kernel_rfl)
theorem jk : setOk jc l 7 = True := setOk_t (by kernel_rfl)
theorem jl : setOk jc l 8 = True := setOk_t (by kernel_rfl)
theorem jm : setOk jc l 9 = True := setOk_t (by kernel_rfl)
theorem jn : setOk jc l 10 = True := setOk_t (by kernel_rfl)
theorem jo : setOk jc l 11 = True := setOk_t (by kernel_rfl)
theorem jp : setOk jc l 12 = True := setOk_t (by kernel_rfl)
theorem jq : setOk jc l 13 = True := setOk_t (by kernel_rfl)
theorem jr : setOk jc l 14 = True := setOk_t (by kernel_rfl)
theorem jt : setOk jc l 15 = True := setOk_t (by kernel_rfl)
theorem ju : setOk jc l 16 = True := setOk_t (by kernel_rfl)
theorem jv : setOk jc l 17 = True := setOk_t (by kernel_rfl)
theorem jw : setOk jc l 18 = True := setOk_t (by kernel_rfl)
theorem jx : setOk jc l 19 = True := setOk_t (by kernel_rfl)
theorem jy : setOk jc l 20 = True := setOk_t (by kernel_rfl)
theorem jz : setOk jc l 21 = True := setOk_t (by kernel_rfl)
theorem k0 : setOk jc l 22 = True := setOk_t (by kernel_rfl)
theorem k7 : setOk jc l 23 = True := setOk_t (by kernel_rfl)
theorem k8 : setOk jc l 24 = (l[24]? = some none) := setOk_c (by kernel_rfl)
theorem k9 : setOk jc l 25 = (l[25]? = some none) := setOk_c (by kernel_rfl)
theorem kg : setOk jc l 26 = (l[26]? = some none) := setOk_c (by kernel_rfl)
theorem zu : setOk py l 0 = True := setOk_t (by kernel_rfl)
theorem zv : setOk qa l 0 = True := setOk_t (by kernel_rfl)
end Mine
set_option linter.unusedSimpArgs false
namespace Mine
variable {G : Stat}
theorem gc_i {x : Str} {i : Int} (h : ∃ t, G.mg x = some (.int i t)) : (∃ rv, G.mg x = some rv ∧ ∀ X h, VR G X h (.int i) rv) = True := by
  obtain ⟨t, e⟩ := h; exact eq_true ⟨_, e, fun _ _ => ⟨t, rfl⟩⟩
theorem gc_s {x : Str} {s : Str} (h : ∃ t, G.mg x = some (.str s t)) : (∃ rv, G.mg x = some rv ∧ ∀ X h, VR G X h (.str s) rv) = True := by
  obtain ⟨t, e⟩ := h; exact eq_true ⟨_, e, fun _ _ => ⟨t, rfl⟩⟩
noncomputable def subCost (a b : Str) : Int := if a == b then 0 else if Txt.lower a == Txt.lower b then 1 else 2
theorem c_sub (S : SetOk G) {d : Nat} {a b : Str} {H : MH} {Q : MV → MH → Prop} (ha : a.length ≤ 2 ^ 20) (hb : b.length ≤ 2 ^ 20) (hq : Q (.int (subCost a b)) H) : Calls G (d + 1) (.fn 88) [.str a, .str b] [] H Q := by
  refine calls_fn S.st S.f__substitution_cost.fn (bd__substitution_cost S _ _) ?_
  have hl : l0 mz [("ch_a", .str a), ("ch_b", .str b)] = [some (.str a), some (.str b)] := rfl
  rw [hl]
  simp only [pd,b152,b153,b154,b155,b156,gc_i S.move,gc_i S.case,ay,di,dk,dl,ad,az,b0,ba,bb,ae,bc,bd,bg,bh,bj,bk,af,bl,ag,bn,bp,br,bs,bt,ah,ai,bv,aj,bw,ab,ak,bx,bz,al,c6,am,dn,dp,dq,dr,c7,du,dw,dx,dy,dz,ao,ap,c8,c9,ce,aq,au,aa,cf,cj,ck,cm,co,cq,cu,av,cw,cx,cy,cz,aw,d8,d9,a9,a8,e9,ee,ew,f0,f8,f9,fb,fe,ff,fg,fh,fi,fj,fk,fo,fq,fs,ft,fu,fw,fx,da,fy,db,g0,ge,gf,gg,gh,gi,gj,gk,gl,gm,gn,gp,gq,gs,gt,gu,gv,gw,gx,gy,gz,i0,i4,i5,i6,i8,i9,ia,dc,ax,ie,ig,ii,de,dg,ij,ik,il,im,ip,iq,ir,iu,iv,iw,iy,j0,j3,j4,j5,j6,dh,j7,j8,j9,ja,jb]
  unfold subCost at hq
  cases h1 : a == b with
  | true => simp only [h1, if_true] at hq; exact ⟨H, .refl _, hq⟩
  | false =>
    simp only [h1] at hq
    refine ⟨ha, hb, ?_⟩
    cases h2 : Txt.lower a == Txt.lower b with
    | true => simp only [h2] at hq; exact ⟨H, .refl _, hq⟩
    | false => simp only [h2] at hq; exact ⟨H, .refl _, hq⟩
end Mine
namespace Mine
variable {G : Stat}
theorem get_map_int {l : List Int} {i : Nat} {v : Int} (h : l[i]? = some v) : (l.map MV.int)[i]? = some (.int v) := by rw [List.getElem?_map, h]; rfl
theorem fdiv2 (a b : Nat) : ((a : Int) + (b : Int)).fdiv 2 = (((a + b) / 2 : Nat) : Int) := by
  rw [Int.fdiv_eq_ediv_of_nonneg _ (by decide)]; lia
theorem no_py2 {x : Int} (h0 : 0 ≤ x) (h1 : x ≤ 2 ^ 30) : ((2 : Int) ≠ 0 ∧ Builtin.divisionGoesByPylong x 2 = false) := by
  refine ⟨by decide, ?_⟩
  have e : (decide ((if ((2 : Int) == 0) = true then 0 else (2 : Int).natAbs.log2 / 30 + 1) > 300)) = false := by decide +kernel
  unfold Builtin.divisionGoesByPylong
  simp only [e, Bool.false_and]
theorem whl_ch {d : Nat} {t : ME} {b : MSs} {q : Pos} {C : Ctx} {l : Loc} {H : MH} {N : Loc → MH → Prop} {R : MV → MH → Prop} (St : Nat → (Loc → MH → Prop) → Prop) (n : Nat)
    (h0 : ∀ T, St n T → T l H) (hI : ∀ m K, (∀ l H, (∀ T, St m T → T l H) → K l H) → St m K)
    (hs : ∀ n K, (∀ m, m < n → St m K) → St n fun l H => evT G d t C l H (ev G d t C l H) fun c H₁ => match c with
      | true => exs G d b C l H₁ K R
      | false => N l H₁) : ex G d (.whl t b q) C l H N R :=
  ⟨fun n l H => ∀ T, St n T → T l H, n, h0, fun n l H h => h _ (hs n _ fun m hm => hI m _ fun l H h => ⟨m, hm, h⟩)⟩
theorem bl_tail (S : SetOk G) {d : Nat} {l : List Int} {x : Int} {lo hi t : Nat} {H : MH} {Q : MV → MH → Prop} {N : Loc → MH → Prop} (hl : l.length ≤ 2 ^ 20) (h1 : lo ≤ t) (h2 : t ≤ hi) (h3 : hi ≤ l.length)
    (hlt : ∀ (i : Nat) (v : Int), lo ≤ i → i < t → l[i]? = some v → v < x) (hge : ∀ (i : Nat) (v : Int), t ≤ i → i < hi → l[i]? = some v → ¬ v < x) (hq : Q (.int t) H) :
    exs G d b27 kl [some (.list (l.map .int)), some (.int x), some (.int lo), some (.int hi), some .none, none] H N Q := by
  simp only [b27,ay,di,dk,dl,ad,az,b0,ba,bb,ae,bc,bd,bg,bh,bj,bk,af,bl,ag,bn,bp,br,bs,bt,ah,ai,bv,aj,bw,ab,ak,bx,bz,al,c6,am,dn,dp,dq,dr,c7,du,dw,dx,dy,dz,ao,ap,c8,c9,ce,aq,au,aa,cf,cj,ck,cm,co,cq,cu,av,cw,cx,cy,cz,aw,d8,d9,a9,a8,e9,ee,ew,f0,f8,f9,fb,fe,ff,fg,fh,fi,fj,fk,fo,fq,fs,ft,fu,fw,fx,da,fy,db,g0,ge,gf,gg,gh,gi,gj,gk,gl,gm,gn,gp,gq,gs,gt,gu,gv,gw,gx,gy,gz,i0,i4,i5,i6,i8,i9,ia,dc,ax,ie,ig,ii,de,dg,ij,ik,il,im,ip,iq,ir,iu,iv,iw,iy,j0,j3,j4,j5,j6,dh,j7,j8,j9,ja,jb]
  rw [b28]
  simp only [a8]
  refine whl_ch (fun n T => ∀ (lo' hi' : Nat) (m : Option MV), hi' - lo' ≤ n → lo ≤ lo' → lo' ≤ t → t ≤ hi' → hi' ≤ hi → T [some (.list (l.map .int)), some (.int x), some (.int lo'), some (.int hi'), some .none, m] H) (hi - lo)
    (fun T h => h lo hi none (Nat.le_refl _) (Nat.le_refl _) h1 h2 (Nat.le_refl _)) (fun m K h lo' hi' x a1 a2 a3 a4 a5 => h _ _ fun T h => h lo' hi' x a1 a2 a3 a4 a5) fun n K hK lo' hi' m q9 q0 q1 q2 q3 => ?_
  simp only [ay,di,dk,dl,ad,az,b0,ba,bb,ae,bc,bd,bg,bh,bj,bk,af,bl,ag,bn,bp,br,bs,bt,ah,ai,bv,aj,bw,ab,ak,bx,bz,al,c6,am,dn,dp,dq,dr,c7,du,dw,dx,dy,dz,ao,ap,c8,c9,ce,aq,au,aa,cf,cj,ck,cm,co,cq,cu,av,cw,cx,cy,cz,aw,d8,d9,a9,a8,e9,ee,ew,f0,f8,f9,fb,fe,ff,fg,fh,fi,fj,fk,fo,fq,fs,ft,fu,fw,fx,da,fy,db,g0,ge,gf,gg,gh,gi,gj,gk,gl,gm,gn,gp,gq,gs,gt,gu,gv,gw,gx,gy,gz,i0,i4,i5,i6,i8,i9,ia,dc,ax,ie,ig,ii,de,dg,ij,ik,il,im,ip,iq,ir,iu,iv,iw,iy,j0,j3,j4,j5,j6,dh,j7,j8,j9,ja,jb]
  cases hc : decide ((lo' : Int) < hi') with
  | false =>
    have : lo' = t := by have := of_decide_eq_false hc; lia
    subst this
    simp only [b41,ay,di,dk,dl,ad,az,b0,ba,bb,ae,bc,bd,bg,bh,bj,bk,af,bl,ag,bn,bp,br,bs,bt,ah,ai,bv,aj,bw,ab,ak,bx,bz,al,c6,am,dn,dp,dq,dr,c7,du,dw,dx,dy,dz,ao,ap,c8,c9,ce,aq,au,aa,cf,cj,ck,cm,co,cq,cu,av,cw,cx,cy,cz,aw,d8,d9,a9,a8,e9,ee,ew,f0,f8,f9,fb,fe,ff,fg,fh,fi,fj,fk,fo,fq,fs,ft,fu,fw,fx,da,fy,db,g0,ge,gf,gg,gh,gi,gj,gk,gl,gm,gn,gp,gq,gs,gt,gu,gv,gw,gx,gy,gz,i0,i4,i5,i6,i8,i9,ia,dc,ax,ie,ig,ii,de,dg,ij,ik,il,im,ip,iq,ir,iu,iv,iw,iy,j0,j3,j4,j5,j6,dh,j7,j8,j9,ja,jb]
    exact ⟨_, .refl _, hq⟩
  | true =>
    have hlh : lo' < hi' := by have := of_decide_eq_true hc; omega
    simp only [b29,ay,di,dk,dl,ad,az,b0,ba,bb,ae,bc,bd,bg,bh,bj,bk,af,bl,ag,bn,bp,br,bs,bt,ah,ai,bv,aj,bw,ab,ak,bx,bz,al,c6,am,dn,dp,dq,dr,c7,du,dw,dx,dy,dz,ao,ap,c8,c9,ce,aq,au,aa,cf,cj,ck,cm,co,cq,cu,av,cw,cx,cy,cz,aw,d8,d9,a9,a8,e9,ee,ew,f0,f8,f9,fb,fe,ff,fg,fh,fi,fj,fk,fo,fq,fs,ft,fu,fw,fx,da,fy,db,g0,ge,gf,gg,gh,gi,gj,gk,gl,gm,gn,gp,gq,gs,gt,gu,gv,gw,gx,gy,gz,i0,i4,i5,i6,i8,i9,ia,dc,ax,ie,ig,ii,de,dg,ij,ik,il,im,ip,iq,ir,iu,iv,iw,iy,j0,j3,j4,j5,j6,dh,j7,j8,j9,ja,jb,ni,nj,nl,np,nq,nu,fdiv2]
    have hm1 : lo' ≤ (lo' + hi') / 2 := by omega
    have hm2 : (lo' + hi') / 2 < hi' := by omega
    refine ⟨no_py2 (by lia) (by lia), ?_⟩
    generalize (lo' + hi') / 2 = md at *
    obtain ⟨v, hv⟩ : ∃ v, l[md]? = some v := ⟨_, List.getElem?_eq_getElem (by lia)⟩
    simp only [b30,ay,di,dk,dl,ad,az,b0,ba,bb,ae,bc,bd,bg,bh,bj,bk,af,bl,ag,bn,bp,br,bs,bt,ah,ai,bv,aj,bw,ab,ak,bx,bz,al,c6,am,dn,dp,dq,dr,c7,du,dw,dx,dy,dz,ao,ap,c8,c9,ce,aq,au,aa,cf,cj,ck,cm,co,cq,cu,av,cw,cx,cy,cz,aw,d8,d9,a9,a8,e9,ee,ew,f0,f8,f9,fb,fe,ff,fg,fh,fi,fj,fk,fo,fq,fs,ft,fu,fw,fx,da,fy,db,g0,ge,gf,gg,gh,gi,gj,gk,gl,gm,gn,gp,gq,gs,gt,gu,gv,gw,gx,gy,gz,i0,i4,i5,i6,i8,i9,ia,dc,ax,ie,ig,ii,de,dg,ij,ik,il,im,ip,iq,ir,iu,iv,iw,iy,j0,j3,j4,j5,j6,dh,j7,j8,j9,ja,jb]
    rw [kh (place_nat (by rw [List.length_map]; omega)) (get_map_int hv)]
    refine ⟨intOk_nat (by lia), ?_⟩
    simp only [ay,di,dk,dl,ad,az,b0,ba,bb,ae,bc,bd,bg,bh,bj,bk,af,bl,ag,bn,bp,br,bs,bt,ah,ai,bv,aj,bw,ab,ak,bx,bz,al,c6,am,dn,dp,dq,dr,c7,du,dw,dx,dy,dz,ao,ap,c8,c9,ce,aq,au,aa,cf,cj,ck,cm,co,cq,cu,av,cw,cx,cy,cz,aw,d8,d9,a9,a8,e9,ee,ew,f0,f8,f9,fb,fe,ff,fg,fh,fi,fj,fk,fo,fq,fs,ft,fu,fw,fx,da,fy,db,g0,ge,gf,gg,gh,gi,gj,gk,gl,gm,gn,gp,gq,gs,gt,gu,gv,gw,gx,gy,gz,i0,i4,i5,i6,i8,i9,ia,dc,ax,ie,ig,ii,de,dg,ij,ik,il,im,ip,iq,ir,iu,iv,iw,iy,j0,j3,j4,j5,j6,dh,j7,j8,j9,ja,jb]
    cases hd : decide (v < x) with
    | true =>
      simp only [b31,ay,di,dk,dl,ad,az,b0,ba,bb,ae,bc,bd,bg,bh,bj,bk,af,bl,ag,bn,bp,br,bs,bt,ah,ai,bv,aj,bw,ab,ak,bx,bz,al,c6,am,dn,dp,dq,dr,c7,du,dw,dx,dy,dz,ao,ap,c8,c9,ce,aq,au,aa,cf,cj,ck,cm,co,cq,cu,av,cw,cx,cy,cz,aw,d8,d9,a9,a8,e9,ee,ew,f0,f8,f9,fb,fe,ff,fg,fh,fi,fj,fk,fo,fq,fs,ft,fu,fw,fx,da,fy,db,g0,ge,gf,gg,gh,gi,gj,gk,gl,gm,gn,gp,gq,gs,gt,gu,gv,gw,gx,gy,gz,i0,i4,i5,i6,i8,i9,ia,dc,ax,ie,ig,ii,de,dg,ij,ik,il,im,ip,iq,ir,iu,iv,iw,iy,j0,j3,j4,j5,j6,dh,j7,j8,j9,ja,jb,ni,nj,nl,np,nq,nu]
      have hlt2 : md < t := Nat.lt_of_not_le fun q => hge _ _ q (by lia) hv (of_decide_eq_true hd)
      exact hK (hi' - (md + 1)) (by lia) (md + 1) hi' _ (Nat.le_refl _) (by lia) (by lia) q2 q3
    | false =>
      simp only [b33,ay,di,dk,dl,ad,az,b0,ba,bb,ae,bc,bd,bg,bh,bj,bk,af,bl,ag,bn,bp,br,bs,bt,ah,ai,bv,aj,bw,ab,ak,bx,bz,al,c6,am,dn,dp,dq,dr,c7,du,dw,dx,dy,dz,ao,ap,c8,c9,ce,aq,au,aa,cf,cj,ck,cm,co,cq,cu,av,cw,cx,cy,cz,aw,d8,d9,a9,a8,e9,ee,ew,f0,f8,f9,fb,fe,ff,fg,fh,fi,fj,fk,fo,fq,fs,ft,fu,fw,fx,da,fy,db,g0,ge,gf,gg,gh,gi,gj,gk,gl,gm,gn,gp,gq,gs,gt,gu,gv,gw,gx,gy,gz,i0,i4,i5,i6,i8,i9,ia,dc,ax,ie,ig,ii,de,dg,ij,ik,il,im,ip,iq,ir,iu,iv,iw,iy,j0,j3,j4,j5,j6,dh,j7,j8,j9,ja,jb,ni,nj,nl,np,nq,nu]
      have hlt2 : t ≤ md := Nat.le_of_not_lt fun q => of_decide_eq_false hd (hlt _ _ (by lia) q hv)
      exact hK (md - lo') (by lia) _ _ _ (Nat.le_refl _) q0 q1 hlt2 (by lia)
theorem br_tail (S : SetOk G) {d : Nat} {l : List Int} {x : Int} {lo hi t : Nat} {H : MH} {Q : MV → MH → Prop} {N : Loc → MH → Prop} (hl : l.length ≤ 2 ^ 20) (h1 : lo ≤ t) (h2 : t ≤ hi) (h3 : hi ≤ l.length)
    (hlt : ∀ (i : Nat) (v : Int), i < t → l[i]? = some v → ¬ x < v) (hge : ∀ (i : Nat) (v : Int), t ≤ i → i < hi → l[i]? = some v → x < v) (hq : Q (.int t) H) :
    exs G d b7 ll [some (.list (l.map .int)), some (.int x), some (.int lo), some (.int hi), some .none, none] H N Q := by
  simp only [b7,ay,di,dk,dl,ad,az,b0,ba,bb,ae,bc,bd,bg,bh,bj,bk,af,bl,ag,bn,bp,br,bs,bt,ah,ai,bv,aj,bw,ab,ak,bx,bz,al,c6,am,dn,dp,dq,dr,c7,du,dw,dx,dy,dz,ao,ap,c8,c9,ce,aq,au,aa,cf,cj,ck,cm,co,cq,cu,av,cw,cx,cy,cz,aw,d8,d9,a9,a8,e9,ee,ew,f0,f8,f9,fb,fe,ff,fg,fh,fi,fj,fk,fo,fq,fs,ft,fu,fw,fx,da,fy,db,g0,ge,gf,gg,gh,gi,gj,gk,gl,gm,gn,gp,gq,gs,gt,gu,gv,gw,gx,gy,gz,i0,i4,i5,i6,i8,i9,ia,dc,ax,ie,ig,ii,de,dg,ij,ik,il,im,ip,iq,ir,iu,iv,iw,iy,j0,j3,j4,j5,j6,dh,j7,j8,j9,ja,jb]
  rw [b8]
  simp only [a8]
  refine whl_ch (fun n T => ∀ (lo' hi' : Nat) (m : Option MV), hi' - lo' ≤ n → lo' ≤ t → t ≤ hi' → hi' ≤ hi → T [some (.list (l.map .int)), some (.int x), some (.int lo'), some (.int hi'), some .none, m] H) (hi - lo)
    (fun T h => h lo hi none (Nat.le_refl _) h1 h2 (Nat.le_refl _)) (fun m K h lo' hi' x a1 a2 a3 a4 => h _ _ fun T h => h lo' hi' x a1 a2 a3 a4) fun n K hK lo' hi' m q9 q1 q2 q3 => ?_
  simp only [ay,di,dk,dl,ad,az,b0,ba,bb,ae,bc,bd,bg,bh,bj,bk,af,bl,ag,bn,bp,br,bs,bt,ah,ai,bv,aj,bw,ab,ak,bx,bz,al,c6,am,dn,dp,dq,dr,c7,du,dw,dx,dy,dz,ao,ap,c8,c9,ce,aq,au,aa,cf,cj,ck,cm,co,cq,cu,av,cw,cx,cy,cz,aw,d8,d9,a9,a8,e9,ee,ew,f0,f8,f9,fb,fe,ff,fg,fh,fi,fj,fk,fo,fq,fs,ft,fu,fw,fx,da,fy,db,g0,ge,gf,gg,gh,gi,gj,gk,gl,gm,gn,gp,gq,gs,gt,gu,gv,gw,gx,gy,gz,i0,i4,i5,i6,i8,i9,ia,dc,ax,ie,ig,ii,de,dg,ij,ik,il,im,ip,iq,ir,iu,iv,iw,iy,j0,j3,j4,j5,j6,dh,j7,j8,j9,ja,jb]
  cases hc : decide ((lo' : Int) < hi') with
  | false =>
    have : lo' = t := by have := of_decide_eq_false hc; lia
    subst this
    simp only [b21,ay,di,dk,dl,ad,az,b0,ba,bb,ae,bc,bd,bg,bh,bj,bk,af,bl,ag,bn,bp,br,bs,bt,ah,ai,bv,aj,bw,ab,ak,bx,bz,al,c6,am,dn,dp,dq,dr,c7,du,dw,dx,dy,dz,ao,ap,c8,c9,ce,aq,au,aa,cf,cj,ck,cm,co,cq,cu,av,cw,cx,cy,cz,aw,d8,d9,a9,a8,e9,ee,ew,f0,f8,f9,fb,fe,ff,fg,fh,fi,fj,fk,fo,fq,fs,ft,fu,fw,fx,da,fy,db,g0,ge,gf,gg,gh,gi,gj,gk,gl,gm,gn,gp,gq,gs,gt,gu,gv,gw,gx,gy,gz,i0,i4,i5,i6,i8,i9,ia,dc,ax,ie,ig,ii,de,dg,ij,ik,il,im,ip,iq,ir,iu,iv,iw,iy,j0,j3,j4,j5,j6,dh,j7,j8,j9,ja,jb]
    exact ⟨_, .refl _, hq⟩
  | true =>
    have hlh : lo' < hi' := by have := of_decide_eq_true hc; omega
    simp only [b9,ay,di,dk,dl,ad,az,b0,ba,bb,ae,bc,bd,bg,bh,bj,bk,af,bl,ag,bn,bp,br,bs,bt,ah,ai,bv,aj,bw,ab,ak,bx,bz,al,c6,am,dn,dp,dq,dr,c7,du,dw,dx,dy,dz,ao,ap,c8,c9,ce,aq,au,aa,cf,cj,ck,cm,co,cq,cu,av,cw,cx,cy,cz,aw,d8,d9,a9,a8,e9,ee,ew,f0,f8,f9,fb,fe,ff,fg,fh,fi,fj,fk,fo,fq,fs,ft,fu,fw,fx,da,fy,db,g0,ge,gf,gg,gh,gi,gj,gk,gl,gm,gn,gp,gq,gs,gt,gu,gv,gw,gx,gy,gz,i0,i4,i5,i6,i8,i9,ia,dc,ax,ie,ig,ii,de,dg,ij,ik,il,im,ip,iq,ir,iu,iv,iw,iy,j0,j3,j4,j5,j6,dh,j7,j8,j9,ja,jb,n6,n7,na,nf,ng,nh,fdiv2]
    have hm1 : lo' ≤ (lo' + hi') / 2 := by omega
    have hm2 : (lo' + hi') / 2 < hi' := by omega
    refine ⟨no_py2 (by lia) (by lia), ?_⟩
    generalize (lo' + hi') / 2 = md at *
    obtain ⟨v, hv⟩ : ∃ v, l[md]? = some v := ⟨_, List.getElem?_eq_getElem (by lia)⟩
    simp only [b10,ay,di,dk,dl,ad,az,b0,ba,bb,ae,bc,bd,bg,bh,bj,bk,af,bl,ag,bn,bp,br,bs,bt,ah,ai,bv,aj,bw,ab,ak,bx,bz,al,c6,am,dn,dp,dq,dr,c7,du,dw,dx,dy,dz,ao,ap,c8,c9,ce,aq,au,aa,cf,cj,ck,cm,co,cq,cu,av,cw,cx,cy,cz,aw,d8,d9,a9,a8,e9,ee,ew,f0,f8,f9,fb,fe,ff,fg,fh,fi,fj,fk,fo,fq,fs,ft,fu,fw,fx,da,fy,db,g0,ge,gf,gg,gh,gi,gj,gk,gl,gm,gn,gp,gq,gs,gt,gu,gv,gw,gx,gy,gz,i0,i4,i5,i6,i8,i9,ia,dc,ax,ie,ig,ii,de,dg,ij,ik,il,im,ip,iq,ir,iu,iv,iw,iy,j0,j3,j4,j5,j6,dh,j7,j8,j9,ja,jb]
    rw [kh (place_nat (by rw [List.length_map]; omega)) (get_map_int hv)]
    refine ⟨intOk_nat (by lia), ?_⟩
    simp only [ay,di,dk,dl,ad,az,b0,ba,bb,ae,bc,bd,bg,bh,bj,bk,af,bl,ag,bn,bp,br,bs,bt,ah,ai,bv,aj,bw,ab,ak,bx,bz,al,c6,am,dn,dp,dq,dr,c7,du,dw,dx,dy,dz,ao,ap,c8,c9,ce,aq,au,aa,cf,cj,ck,cm,co,cq,cu,av,cw,cx,cy,cz,aw,d8,d9,a9,a8,e9,ee,ew,f0,f8,f9,fb,fe,ff,fg,fh,fi,fj,fk,fo,fq,fs,ft,fu,fw,fx,da,fy,db,g0,ge,gf,gg,gh,gi,gj,gk,gl,gm,gn,gp,gq,gs,gt,gu,gv,gw,gx,gy,gz,i0,i4,i5,i6,i8,i9,ia,dc,ax,ie,ig,ii,de,dg,ij,ik,il,im,ip,iq,ir,iu,iv,iw,iy,j0,j3,j4,j5,j6,dh,j7,j8,j9,ja,jb]
    cases hd : decide (x < v) with
    | true =>
      simp only [b11,ay,di,dk,dl,ad,az,b0,ba,bb,ae,bc,bd,bg,bh,bj,bk,af,bl,ag,bn,bp,br,bs,bt,ah,ai,bv,aj,bw,ab,ak,bx,bz,al,c6,am,dn,dp,dq,dr,c7,du,dw,dx,dy,dz,ao,ap,c8,c9,ce,aq,au,aa,cf,cj,ck,cm,co,cq,cu,av,cw,cx,cy,cz,aw,d8,d9,a9,a8,e9,ee,ew,f0,f8,f9,fb,fe,ff,fg,fh,fi,fj,fk,fo,fq,fs,ft,fu,fw,fx,da,fy,db,g0,ge,gf,gg,gh,gi,gj,gk,gl,gm,gn,gp,gq,gs,gt,gu,gv,gw,gx,gy,gz,i0,i4,i5,i6,i8,i9,ia,dc,ax,ie,ig,ii,de,dg,ij,ik,il,im,ip,iq,ir,iu,iv,iw,iy,j0,j3,j4,j5,j6,dh,j7,j8,j9,ja,jb,n6,n7,na,nf,ng,nh]
      have hlt2 : t ≤ md := Nat.le_of_not_lt fun q => hlt _ _ q hv (of_decide_eq_true hd)
      exact hK (md - lo') (by lia) _ _ _ (Nat.le_refl _) q1 hlt2 (by lia)
    | false =>
      simp only [b13,ay,di,dk,dl,ad,az,b0,ba,bb,ae,bc,bd,bg,bh,bj,bk,af,bl,ag,bn,bp,br,bs,bt,ah,ai,bv,aj,bw,ab,ak,bx,bz,al,c6,am,dn,dp,dq,dr,c7,du,dw,dx,dy,dz,ao,ap,c8,c9,ce,aq,au,aa,cf,cj,ck,cm,co,cq,cu,av,cw,cx,cy,cz,aw,d8,d9,a9,a8,e9,ee,ew,f0,f8,f9,fb,fe,ff,fg,fh,fi,fj,fk,fo,fq,fs,ft,fu,fw,fx,da,fy,db,g0,ge,gf,gg,gh,gi,gj,gk,gl,gm,gn,gp,gq,gs,gt,gu,gv,gw,gx,gy,gz,i0,i4,i5,i6,i8,i9,ia,dc,ax,ie,ig,ii,de,dg,ij,ik,il,im,ip,iq,ir,iu,iv,iw,iy,j0,j3,j4,j5,j6,dh,j7,j8,j9,ja,jb,n6,n7,na,nf,ng,nh]
      have hlt2 : md < t := Nat.lt_of_not_le fun q => of_decide_eq_false hd (hge _ _ q (by lia) hv)
      exact hK (hi' - (md + 1)) (by lia) (md + 1) hi' _ (Nat.le_refl _) (by lia) q2 q3
theorem c_bl4 (S : SetOk G) {d : Nat} {l : List Int} {x : Int} {lo hi t : Nat} {H : MH} {Q : MV → MH → Prop} (hl : l.length ≤ 2 ^ 20) (h1 : lo ≤ t) (h2 : t ≤ hi) (h3 : hi ≤ l.length)
    (hlt : ∀ (i : Nat) (v : Int), lo ≤ i → i < t → l[i]? = some v → v < x) (hge : ∀ (i : Nat) (v : Int), t ≤ i → i < hi → l[i]? = some v → ¬ v < x) (hq : Q (.int t) H) :
    Calls G (d + 1) (.fn 32) [.list (l.map .int), .int x, .int lo, .int hi] [] H Q := by
  refine calls_fn S.st S.f_bisect_left.fn (bd_bisect_left4 S _ _ _ _) ?_
  have e : l0 kl [("a", .list (l.map .int)), ("x", .int x), ("lo", .int lo), ("hi", .int hi), ("key", .none)] = [some (.list (l.map .int)), some (.int x), some (.int lo), some (.int hi), some .none, none] := rfl
  rw [e, nv, b23]
  have z : decide ((lo : Int) < 0) = false := decide_eq_false (by lia)
  simp only [b25,z,ay,di,dk,dl,ad,az,b0,ba,bb,ae,bc,bd,bg,bh,bj,bk,af,bl,ag,bn,bp,br,bs,bt,ah,ai,bv,aj,bw,ab,ak,bx,bz,al,c6,am,dn,dp,dq,dr,c7,du,dw,dx,dy,dz,ao,ap,c8,c9,ce,aq,au,aa,cf,cj,ck,cm,co,cq,cu,av,cw,cx,cy,cz,aw,d8,d9,a9,a8,e9,ee,ew,f0,f8,f9,fb,fe,ff,fg,fh,fi,fj,fk,fo,fq,fs,ft,fu,fw,fx,da,fy,db,g0,ge,gf,gg,gh,gi,gj,gk,gl,gm,gn,gp,gq,gs,gt,gu,gv,gw,gx,gy,gz,i0,i4,i5,i6,i8,i9,ia,dc,ax,ie,ig,ii,de,dg,ij,ik,il,im,ip,iq,ir,iu,iv,iw,iy,j0,j3,j4,j5,j6,dh,j7,j8,j9,ja,jb]
  exact bl_tail S hl h1 h2 h3 hlt hge hq
theorem c_bl2 (S : SetOk G) {d : Nat} {l : List Int} {x : Int} {t : Nat} {H : MH} {Q : MV → MH → Prop} (hl : l.length ≤ 2 ^ 20) (h2 : t ≤ l.length)
    (hlt : ∀ (i : Nat) (v : Int), i < t → l[i]? = some v → v < x) (hge : ∀ (i : Nat) (v : Int), t ≤ i → l[i]? = some v → ¬ v < x) (hq : Q (.int t) H) :
    Calls G (d + 1) (.fn 32) [.list (l.map .int), .int x] [] H Q := by
  refine calls_fn S.st S.f_bisect_left.fn (bd_bisect_left2 S _ _) ?_
  have e : l0 kl [("a", .list (l.map .int)), ("x", .int x), ("lo", .int 0), ("hi", .none), ("key", .none)] = [some (.list (l.map .int)), some (.int x), some (.int 0), some .none, some .none, none] := rfl
  rw [e, nv, b23]
  have z : decide ((0 : Int) < 0) = false := rfl
  simp only [b25,b26,z,ay,di,dk,dl,ad,az,b0,ba,bb,ae,bc,bd,bg,bh,bj,bk,af,bl,ag,bn,bp,br,bs,bt,ah,ai,bv,aj,bw,ab,ak,bx,bz,al,c6,am,dn,dp,dq,dr,c7,du,dw,dx,dy,dz,ao,ap,c8,c9,ce,aq,au,aa,cf,cj,ck,cm,co,cq,cu,av,cw,cx,cy,cz,aw,d8,d9,a9,a8,e9,ee,ew,f0,f8,f9,fb,fe,ff,fg,fh,fi,fj,fk,fo,fq,fs,ft,fu,fw,fx,da,fy,db,g0,ge,gf,gg,gh,gi,gj,gk,gl,gm,gn,gp,gq,gs,gt,gu,gv,gw,gx,gy,gz,i0,i4,i5,i6,i8,i9,ia,dc,ax,ie,ig,ii,de,dg,ij,ik,il,im,ip,iq,ir,iu,iv,iw,iy,j0,j3,j4,j5,j6,dh,j7,j8,j9,ja,jb,ni,nj,nl,np,nq,nu,List.length_map]
  exact ⟨hl, bl_tail S (lo := 0) hl (Nat.zero_le _) h2 (Nat.le_refl _) (fun i v _ a b => hlt i v a b) (fun i v a b c => hge i v a c) hq⟩
theorem c_br2 (S : SetOk G) {d : Nat} {l : List Int} {x : Int} {t : Nat} {H : MH} {Q : MV → MH → Prop} (hl : l.length ≤ 2 ^ 20) (h2 : t ≤ l.length)
    (hlt : ∀ (i : Nat) (v : Int), i < t → l[i]? = some v → ¬ x < v) (hge : ∀ (i : Nat) (v : Int), t ≤ i → l[i]? = some v → x < v) (hq : Q (.int t) H) :
    Calls G (d + 1) (.fn 23) [.list (l.map .int), .int x] [] H Q := by
  refine calls_fn S.st S.f_bisect_right.fn (bd_bisect_right2 S _ _) ?_
  have e : l0 ll [("a", .list (l.map .int)), ("x", .int x), ("lo", .int 0), ("hi", .none), ("key", .none)] = [some (.list (l.map .int)), some (.int x), some (.int 0), some .none, some .none, none] := rfl
  rw [e, oq, b3]
  have z : decide ((0 : Int) < 0) = false := rfl
  simp only [b5,b6,z,ay,di,dk,dl,ad,az,b0,ba,bb,ae,bc,bd,bg,bh,bj,bk,af,bl,ag,bn,bp,br,bs,bt,ah,ai,bv,aj,bw,ab,ak,bx,bz,al,c6,am,dn,dp,dq,dr,c7,du,dw,dx,dy,dz,ao,ap,c8,c9,ce,aq,au,aa,cf,cj,ck,cm,co,cq,cu,av,cw,cx,cy,cz,aw,d8,d9,a9,a8,e9,ee,ew,f0,f8,f9,fb,fe,ff,fg,fh,fi,fj,fk,fo,fq,fs,ft,fu,fw,fx,da,fy,db,g0,ge,gf,gg,gh,gi,gj,gk,gl,gm,gn,gp,gq,gs,gt,gu,gv,gw,gx,gy,gz,i0,i4,i5,i6,i8,i9,ia,dc,ax,ie,ig,ii,de,dg,ij,ik,il,im,ip,iq,ir,iu,iv,iw,iy,j0,j3,j4,j5,j6,dh,j7,j8,j9,ja,jb,n6,n7,na,nf,ng,nh,List.length_map]
  exact ⟨hl, br_tail S (lo := 0) hl (Nat.zero_le _) h2 (Nat.le_refl _) hlt (fun i v a b c => hge i v a c) hq⟩
theorem lk_tail (S : SetOk G) {d : Nat} {xs : List MV} {k : Nat} {cs : List MV} {lo hi t : Nat} {I : List Nat → MH} {p : Nat → Bool} {Q : MV → MH → Prop} {N : Loc → MH → Prop} (hl : xs.length ≤ 2 ^ 20) (h1 : lo ≤ t) (h2 : t ≤ hi) (h3 : hi ≤ xs.length)
    (hp : ∀ i, lo ≤ i → i < hi → p i = decide (t ≤ i))
    (hk : ∀ (js : List Nat) (i : Nat) (x : MV) (Q : MV → MH → Prop), js.Nodup → (∀ j ∈ js, lo ≤ j ∧ j < hi) → lo ≤ i → i < hi → i ∉ js → xs[i]? = some x → Q (.bool (p i)) (I (js ++ [i])) → Calls G d (.clo k cs) [x] [] (I js) Q)
    (hq : ∀ js : List Nat, js.Nodup → (∀ j ∈ js, lo ≤ j ∧ j < hi) → Q (.int t) (I js)) :
    exs G d b27 kl [some (.list xs), some (.bool true), some (.int lo), some (.int hi), some (.clo k cs), none] (I []) N Q := by
  simp only [b27,ay,di,dk,dl,ad,az,b0,ba,bb,ae,bc,bd,bg,bh,bj,bk,af,bl,ag,bn,bp,br,bs,bt,ah,ai,bv,aj,bw,ab,ak,bx,bz,al,c6,am,dn,dp,dq,dr,c7,du,dw,dx,dy,dz,ao,ap,c8,c9,ce,aq,au,aa,cf,cj,ck,cm,co,cq,cu,av,cw,cx,cy,cz,aw,d8,d9,a9,a8,e9,ee,ew,f0,f8,f9,fb,fe,ff,fg,fh,fi,fj,fk,fo,fq,fs,ft,fu,fw,fx,da,fy,db,g0,ge,gf,gg,gh,gi,gj,gk,gl,gm,gn,gp,gq,gs,gt,gu,gv,gw,gx,gy,gz,i0,i4,i5,i6,i8,i9,ia,dc,ax,ie,ig,ii,de,dg,ij,ik,il,im,ip,iq,ir,iu,iv,iw,iy,j0,j3,j4,j5,j6,dh,j7,j8,j9,ja,jb]
  rw [b35]
  simp only [a8]
  refine whl_ch (fun n T => ∀ (lo' hi' : Nat) (m : Option MV) (js : List Nat), js.Nodup → (∀ j ∈ js, (lo ≤ j ∧ j < hi) ∧ ¬ (lo' ≤ j ∧ j < hi')) → hi' - lo' ≤ n → lo ≤ lo' → lo' ≤ t → t ≤ hi' → hi' ≤ hi → T [some (.list xs), some (.bool true), some (.int lo'), some (.int hi'), some (.clo k cs), m] (I js)) (hi - lo)
    (fun T h => h lo hi none [] .nil nofun (Nat.le_refl _) (Nat.le_refl _) h1 h2 (Nat.le_refl _)) (fun m K h lo' hi' x js a6 a7 a1 a2 a3 a4 a5 => h _ _ fun T h => h lo' hi' x js a6 a7 a1 a2 a3 a4 a5) fun n K hK lo' hi' m js hn hj q9 q0 q1 q2 q3 => ?_
  simp only [ay,di,dk,dl,ad,az,b0,ba,bb,ae,bc,bd,bg,bh,bj,bk,af,bl,ag,bn,bp,br,bs,bt,ah,ai,bv,aj,bw,ab,ak,bx,bz,al,c6,am,dn,dp,dq,dr,c7,du,dw,dx,dy,dz,ao,ap,c8,c9,ce,aq,au,aa,cf,cj,ck,cm,co,cq,cu,av,cw,cx,cy,cz,aw,d8,d9,a9,a8,e9,ee,ew,f0,f8,f9,fb,fe,ff,fg,fh,fi,fj,fk,fo,fq,fs,ft,fu,fw,fx,da,fy,db,g0,ge,gf,gg,gh,gi,gj,gk,gl,gm,gn,gp,gq,gs,gt,gu,gv,gw,gx,gy,gz,i0,i4,i5,i6,i8,i9,ia,dc,ax,ie,ig,ii,de,dg,ij,ik,il,im,ip,iq,ir,iu,iv,iw,iy,j0,j3,j4,j5,j6,dh,j7,j8,j9,ja,jb]
  cases hc : decide ((lo' : Int) < hi') with
  | false =>
    have : lo' = t := by have := of_decide_eq_false hc; lia
    subst this
    simp only [b41,ay,di,dk,dl,ad,az,b0,ba,bb,ae,bc,bd,bg,bh,bj,bk,af,bl,ag,bn,bp,br,bs,bt,ah,ai,bv,aj,bw,ab,ak,bx,bz,al,c6,am,dn,dp,dq,dr,c7,du,dw,dx,dy,dz,ao,ap,c8,c9,ce,aq,au,aa,cf,cj,ck,cm,co,cq,cu,av,cw,cx,cy,cz,aw,d8,d9,a9,a8,e9,ee,ew,f0,f8,f9,fb,fe,ff,fg,fh,fi,fj,fk,fo,fq,fs,ft,fu,fw,fx,da,fy,db,g0,ge,gf,gg,gh,gi,gj,gk,gl,gm,gn,gp,gq,gs,gt,gu,gv,gw,gx,gy,gz,i0,i4,i5,i6,i8,i9,ia,dc,ax,ie,ig,ii,de,dg,ij,ik,il,im,ip,iq,ir,iu,iv,iw,iy,j0,j3,j4,j5,j6,dh,j7,j8,j9,ja,jb]
    exact ⟨_, .refl _, hq js hn fun j m => (hj j m).1⟩
  | true =>
    have hlh : lo' < hi' := by have := of_decide_eq_true hc; omega
    simp only [b36,ay,di,dk,dl,ad,az,b0,ba,bb,ae,bc,bd,bg,bh,bj,bk,af,bl,ag,bn,bp,br,bs,bt,ah,ai,bv,aj,bw,ab,ak,bx,bz,al,c6,am,dn,dp,dq,dr,c7,du,dw,dx,dy,dz,ao,ap,c8,c9,ce,aq,au,aa,cf,cj,ck,cm,co,cq,cu,av,cw,cx,cy,cz,aw,d8,d9,a9,a8,e9,ee,ew,f0,f8,f9,fb,fe,ff,fg,fh,fi,fj,fk,fo,fq,fs,ft,fu,fw,fx,da,fy,db,g0,ge,gf,gg,gh,gi,gj,gk,gl,gm,gn,gp,gq,gs,gt,gu,gv,gw,gx,gy,gz,i0,i4,i5,i6,i8,i9,ia,dc,ax,ie,ig,ii,de,dg,ij,ik,il,im,ip,iq,ir,iu,iv,iw,iy,j0,j3,j4,j5,j6,dh,j7,j8,j9,ja,jb,ni,nj,nl,np,nq,nu,fdiv2]
    have hm1 : lo' ≤ (lo' + hi') / 2 := by omega
    have hm2 : (lo' + hi') / 2 < hi' := by omega
    refine ⟨no_py2 (by lia) (by lia), ?_⟩
    generalize (lo' + hi') / 2 = md at *
    obtain ⟨v, hv⟩ : ∃ v, xs[md]? = some v := ⟨_, List.getElem?_eq_getElem (by lia)⟩
    simp only [b37,ay,di,dk,dl,ad,az,b0,ba,bb,ae,bc,bd,bg,bh,bj,bk,af,bl,ag,bn,bp,br,bs,bt,ah,ai,bv,aj,bw,ab,ak,bx,bz,al,c6,am,dn,dp,dq,dr,c7,du,dw,dx,dy,dz,ao,ap,c8,c9,ce,aq,au,aa,cf,cj,ck,cm,co,cq,cu,av,cw,cx,cy,cz,aw,d8,d9,a9,a8,e9,ee,ew,f0,f8,f9,fb,fe,ff,fg,fh,fi,fj,fk,fo,fq,fs,ft,fu,fw,fx,da,fy,db,g0,ge,gf,gg,gh,gi,gj,gk,gl,gm,gn,gp,gq,gs,gt,gu,gv,gw,gx,gy,gz,i0,i4,i5,i6,i8,i9,ia,dc,ax,ie,ig,ii,de,dg,ij,ik,il,im,ip,iq,ir,iu,iv,iw,iy,j0,j3,j4,j5,j6,dh,j7,j8,j9,ja,jb]
    rw [kh (place_nat (by lia)) hv]
    refine ⟨intOk_nat (by lia), ?_⟩
    have hnm : md ∉ js := fun m => (hj _ m).2 (by lia)
    refine hk js _ _ _ hn (fun j m => (hj j m).1) (by lia) (by lia) hnm hv ?_
    have hn' : (js ++ [md]).Nodup := by
      rw [List.nodup_append]
      exact ⟨hn, by simp, fun a ha b hb => by rw [List.mem_singleton.mp hb]; exact fun e => hnm (e ▸ ha)⟩
    have hj' : ∀ (lo2 hi2 : Nat), lo' ≤ lo2 → hi2 ≤ hi' → ¬ (lo2 ≤ md ∧ md < hi2) → ∀ j ∈ js ++ [md], (lo ≤ j ∧ j < hi) ∧ ¬ (lo2 ≤ j ∧ j < hi2) := fun lo2 hi2 a b c j m => by
      rcases List.mem_append.mp m with m | m
      · have := hj j m; lia
      · rw [List.mem_singleton.mp m]; lia
    rw [hp _ (by lia) (by lia)]
    simp only [ay,di,dk,dl,ad,az,b0,ba,bb,ae,bc,bd,bg,bh,bj,bk,af,bl,ag,bn,bp,br,bs,bt,ah,ai,bv,aj,bw,ab,ak,bx,bz,al,c6,am,dn,dp,dq,dr,c7,du,dw,dx,dy,dz,ao,ap,c8,c9,ce,aq,au,aa,cf,cj,ck,cm,co,cq,cu,av,cw,cx,cy,cz,aw,d8,d9,a9,a8,e9,ee,ew,f0,f8,f9,fb,fe,ff,fg,fh,fi,fj,fk,fo,fq,fs,ft,fu,fw,fx,da,fy,db,g0,ge,gf,gg,gh,gi,gj,gk,gl,gm,gn,gp,gq,gs,gt,gu,gv,gw,gx,gy,gz,i0,i4,i5,i6,i8,i9,ia,dc,ax,ie,ig,ii,de,dg,ij,ik,il,im,ip,iq,ir,iu,iv,iw,iy,j0,j3,j4,j5,j6,dh,j7,j8,j9,ja,jb]
    cases hd : decide (t ≤ md) with
    | true =>
      have hlt2 := of_decide_eq_true hd
      simp only [Bool.not_false,Bool.not_true,Bool.true_and,Bool.false_and,Bool.and_true,b40,ay,di,dk,dl,ad,az,b0,ba,bb,ae,bc,bd,bg,bh,bj,bk,af,bl,ag,bn,bp,br,bs,bt,ah,ai,bv,aj,bw,ab,ak,bx,bz,al,c6,am,dn,dp,dq,dr,c7,du,dw,dx,dy,dz,ao,ap,c8,c9,ce,aq,au,aa,cf,cj,ck,cm,co,cq,cu,av,cw,cx,cy,cz,aw,d8,d9,a9,a8,e9,ee,ew,f0,f8,f9,fb,fe,ff,fg,fh,fi,fj,fk,fo,fq,fs,ft,fu,fw,fx,da,fy,db,g0,ge,gf,gg,gh,gi,gj,gk,gl,gm,gn,gp,gq,gs,gt,gu,gv,gw,gx,gy,gz,i0,i4,i5,i6,i8,i9,ia,dc,ax,ie,ig,ii,de,dg,ij,ik,il,im,ip,iq,ir,iu,iv,iw,iy,j0,j3,j4,j5,j6,dh,j7,j8,j9,ja,jb,ni,nj,nl,np,nq,nu]
      exact hK (md - lo') (by lia) _ _ _ _ hn' (hj' _ _ (by lia) (by lia) (by lia)) (Nat.le_refl _) (by lia) q1 hlt2 (by lia)
    | false =>
      have hlt2 := of_decide_eq_false hd
      simp only [Bool.not_false,Bool.not_true,Bool.true_and,Bool.false_and,Bool.and_true,b38,ay,di,dk,dl,ad,az,b0,ba,bb,ae,bc,bd,bg,bh,bj,bk,af,bl,ag,bn,bp,br,bs,bt,ah,ai,bv,aj,bw,ab,ak,bx,bz,al,c6,am,dn,dp,dq,dr,c7,du,dw,dx,dy,dz,ao,ap,c8,c9,ce,aq,au,aa,cf,cj,ck,cm,co,cq,cu,av,cw,cx,cy,cz,aw,d8,d9,a9,a8,e9,ee,ew,f0,f8,f9,fb,fe,ff,fg,fh,fi,fj,fk,fo,fq,fs,ft,fu,fw,fx,da,fy,db,g0,ge,gf,gg,gh,gi,gj,gk,gl,gm,gn,gp,gq,gs,gt,gu,gv,gw,gx,gy,gz,i0,i4,i5,i6,i8,i9,ia,dc,ax,ie,ig,ii,de,dg,ij,ik,il,im,ip,iq,ir,iu,iv,iw,iy,j0,j3,j4,j5,j6,dh,j7,j8,j9,ja,jb,ni,nj,nl,np,nq,nu]
      exact hK (hi' - (md + 1)) (by lia) (md + 1) hi' _ _ hn' (hj' _ _ (by lia) (by lia) (by lia)) (Nat.le_refl _) (by lia) (by lia) q2 q3
theorem c_lk (S : SetOk G) {d : Nat} {xs : List MV} {k : Nat} {cs : List MV} {lo hi t : Nat} {I : List Nat → MH} {p : Nat → Bool} {Q : MV → MH → Prop} (hl : xs.length ≤ 2 ^ 20) (h1 : lo ≤ t) (h2 : t ≤ hi) (h3 : hi ≤ xs.length)
    (hp : ∀ i, lo ≤ i → i < hi → p i = decide (t ≤ i))
    (hk : ∀ (js : List Nat) (i : Nat) (x : MV) (Q : MV → MH → Prop), js.Nodup → (∀ j ∈ js, lo ≤ j ∧ j < hi) → lo ≤ i → i < hi → i ∉ js → xs[i]? = some x → Q (.bool (p i)) (I (js ++ [i])) → Calls G d (.clo k cs) [x] [] (I js) Q)
    (hq : ∀ js : List Nat, js.Nodup → (∀ j ∈ js, lo ≤ j ∧ j < hi) → Q (.int t) (I js)) :
    Calls G (d + 1) (.fn 32) [.list xs, .bool true, .int lo, .int hi] [("key", .clo k cs)] (I []) Q := by
  refine calls_fn S.st S.f_bisect_left.fn (bd_bisect_leftk S _ _ _ _ _) ?_
  have e : l0 kl [("a", .list xs), ("x", .bool true), ("lo", .int lo), ("hi", .int hi), ("key", .clo k cs)] = [some (.list xs), some (.bool true), some (.int lo), some (.int hi), some (.clo k cs), none] := rfl
  rw [e, nv, b23]
  have z : decide ((lo : Int) < 0) = false := decide_eq_false (by lia)
  simp only [b25,z,ay,di,dk,dl,ad,az,b0,ba,bb,ae,bc,bd,bg,bh,bj,bk,af,bl,ag,bn,bp,br,bs,bt,ah,ai,bv,aj,bw,ab,ak,bx,bz,al,c6,am,dn,dp,dq,dr,c7,du,dw,dx,dy,dz,ao,ap,c8,c9,ce,aq,au,aa,cf,cj,ck,cm,co,cq,cu,av,cw,cx,cy,cz,aw,d8,d9,a9,a8,e9,ee,ew,f0,f8,f9,fb,fe,ff,fg,fh,fi,fj,fk,fo,fq,fs,ft,fu,fw,fx,da,fy,db,g0,ge,gf,gg,gh,gi,gj,gk,gl,gm,gn,gp,gq,gs,gt,gu,gv,gw,gx,gy,gz,i0,i4,i5,i6,i8,i9,ia,dc,ax,ie,ig,ii,de,dg,ij,ik,il,im,ip,iq,ir,iu,iv,iw,iy,j0,j3,j4,j5,j6,dh,j7,j8,j9,ja,jb]
  exact lk_tail S hl h1 h2 h3 hp hk hq
theorem rk_tail (S : SetOk G) {d : Nat} {xs : List MV} {k : Nat} {cs : List MV} {lo hi t : Nat} {I : List Nat → MH} {p : Nat → Bool} {Q : MV → MH → Prop} {N : Loc → MH → Prop} (hl : xs.length ≤ 2 ^ 20) (h1 : lo ≤ t) (h2 : t ≤ hi) (h3 : hi ≤ xs.length)
    (hp : ∀ i, lo ≤ i → i < hi → p i = decide (t ≤ i))
    (hk : ∀ (js : List Nat) (i : Nat) (x : MV) (Q : MV → MH → Prop), js.Nodup → (∀ j ∈ js, lo ≤ j ∧ j < hi) → lo ≤ i → i < hi → i ∉ js → xs[i]? = some x → Q (.bool (p i)) (I (js ++ [i])) → Calls G d (.clo k cs) [x] [] (I js) Q)
    (hq : ∀ js : List Nat, js.Nodup → (∀ j ∈ js, lo ≤ j ∧ j < hi) → Q (.int t) (I js)) :
    exs G d b7 ll [some (.list xs), some (.bool false), some (.int lo), some (.int hi), some (.clo k cs), none] (I []) N Q := by
  simp only [b7,ay,di,dk,dl,ad,az,b0,ba,bb,ae,bc,bd,bg,bh,bj,bk,af,bl,ag,bn,bp,br,bs,bt,ah,ai,bv,aj,bw,ab,ak,bx,bz,al,c6,am,dn,dp,dq,dr,c7,du,dw,dx,dy,dz,ao,ap,c8,c9,ce,aq,au,aa,cf,cj,ck,cm,co,cq,cu,av,cw,cx,cy,cz,aw,d8,d9,a9,a8,e9,ee,ew,f0,f8,f9,fb,fe,ff,fg,fh,fi,fj,fk,fo,fq,fs,ft,fu,fw,fx,da,fy,db,g0,ge,gf,gg,gh,gi,gj,gk,gl,gm,gn,gp,gq,gs,gt,gu,gv,gw,gx,gy,gz,i0,i4,i5,i6,i8,i9,ia,dc,ax,ie,ig,ii,de,dg,ij,ik,il,im,ip,iq,ir,iu,iv,iw,iy,j0,j3,j4,j5,j6,dh,j7,j8,j9,ja,jb]
  rw [b15]
  simp only [a8]
  refine whl_ch (fun n T => ∀ (lo' hi' : Nat) (m : Option MV) (js : List Nat), js.Nodup → (∀ j ∈ js, (lo ≤ j ∧ j < hi) ∧ ¬ (lo' ≤ j ∧ j < hi')) → hi' - lo' ≤ n → lo ≤ lo' → lo' ≤ t → t ≤ hi' → hi' ≤ hi → T [some (.list xs), some (.bool false), some (.int lo'), some (.int hi'), some (.clo k cs), m] (I js)) (hi - lo)
    (fun T h => h lo hi none [] .nil nofun (Nat.le_refl _) (Nat.le_refl _) h1 h2 (Nat.le_refl _)) (fun m K h lo' hi' x js a6 a7 a1 a2 a3 a4 a5 => h _ _ fun T h => h lo' hi' x js a6 a7 a1 a2 a3 a4 a5) fun n K hK lo' hi' m js hn hj q9 q0 q1 q2 q3 => ?_
  simp only [ay,di,dk,dl,ad,az,b0,ba,bb,ae,bc,bd,bg,bh,bj,bk,af,bl,ag,bn,bp,br,bs,bt,ah,ai,bv,aj,bw,ab,ak,bx,bz,al,c6,am,dn,dp,dq,dr,c7,du,dw,dx,dy,dz,ao,ap,c8,c9,ce,aq,au,aa,cf,cj,ck,cm,co,cq,cu,av,cw,cx,cy,cz,aw,d8,d9,a9,a8,e9,ee,ew,f0,f8,f9,fb,fe,ff,fg,fh,fi,fj,fk,fo,fq,fs,ft,fu,fw,fx,da,fy,db,g0,ge,gf,gg,gh,gi,gj,gk,gl,gm,gn,gp,gq,gs,gt,gu,gv,gw,gx,gy,gz,i0,i4,i5,i6,i8,i9,ia,dc,ax,ie,ig,ii,de,dg,ij,ik,il,im,ip,iq,ir,iu,iv,iw,iy,j0,j3,j4,j5,j6,dh,j7,j8,j9,ja,jb]
  cases hc : decide ((lo' : Int) < hi') with
  | false =>
    have : lo' = t := by have := of_decide_eq_false hc; lia
    subst this
    simp only [b21,ay,di,dk,dl,ad,az,b0,ba,bb,ae,bc,bd,bg,bh,bj,bk,af,bl,ag,bn,bp,br,bs,bt,ah,ai,bv,aj,bw,ab,ak,bx,bz,al,c6,am,dn,dp,dq,dr,c7,du,dw,dx,dy,dz,ao,ap,c8,c9,ce,aq,au,aa,cf,cj,ck,cm,co,cq,cu,av,cw,cx,cy,cz,aw,d8,d9,a9,a8,e9,ee,ew,f0,f8,f9,fb,fe,ff,fg,fh,fi,fj,fk,fo,fq,fs,ft,fu,fw,fx,da,fy,db,g0,ge,gf,gg,gh,gi,gj,gk,gl,gm,gn,gp,gq,gs,gt,gu,gv,gw,gx,gy,gz,i0,i4,i5,i6,i8,i9,ia,dc,ax,ie,ig,ii,de,dg,ij,ik,il,im,ip,iq,ir,iu,iv,iw,iy,j0,j3,j4,j5,j6,dh,j7,j8,j9,ja,jb]
    exact ⟨_, .refl _, hq js hn fun j m => (hj j m).1⟩
  | true =>
    have hlh : lo' < hi' := by have := of_decide_eq_true hc; omega
    simp only [b16,ay,di,dk,dl,ad,az,b0,ba,bb,ae,bc,bd,bg,bh,bj,bk,af,bl,ag,bn,bp,br,bs,bt,ah,ai,bv,aj,bw,ab,ak,bx,bz,al,c6,am,dn,dp,dq,dr,c7,du,dw,dx,dy,dz,ao,ap,c8,c9,ce,aq,au,aa,cf,cj,ck,cm,co,cq,cu,av,cw,cx,cy,cz,aw,d8,d9,a9,a8,e9,ee,ew,f0,f8,f9,fb,fe,ff,fg,fh,fi,fj,fk,fo,fq,fs,ft,fu,fw,fx,da,fy,db,g0,ge,gf,gg,gh,gi,gj,gk,gl,gm,gn,gp,gq,gs,gt,gu,gv,gw,gx,gy,gz,i0,i4,i5,i6,i8,i9,ia,dc,ax,ie,ig,ii,de,dg,ij,ik,il,im,ip,iq,ir,iu,iv,iw,iy,j0,j3,j4,j5,j6,dh,j7,j8,j9,ja,jb,n6,n7,na,nf,ng,nh,fdiv2]
    have hm1 : lo' ≤ (lo' + hi') / 2 := by omega
    have hm2 : (lo' + hi') / 2 < hi' := by omega
    refine ⟨no_py2 (by lia) (by lia), ?_⟩
    generalize (lo' + hi') / 2 = md at *
    obtain ⟨v, hv⟩ : ∃ v, xs[md]? = some v := ⟨_, List.getElem?_eq_getElem (by lia)⟩
    simp only [b17,ay,di,dk,dl,ad,az,b0,ba,bb,ae,bc,bd,bg,bh,bj,bk,af,bl,ag,bn,bp,br,bs,bt,ah,ai,bv,aj,bw,ab,ak,bx,bz,al,c6,am,dn,dp,dq,dr,c7,du,dw,dx,dy,dz,ao,ap,c8,c9,ce,aq,au,aa,cf,cj,ck,cm,co,cq,cu,av,cw,cx,cy,cz,aw,d8,d9,a9,a8,e9,ee,ew,f0,f8,f9,fb,fe,ff,fg,fh,fi,fj,fk,fo,fq,fs,ft,fu,fw,fx,da,fy,db,g0,ge,gf,gg,gh,gi,gj,gk,gl,gm,gn,gp,gq,gs,gt,gu,gv,gw,gx,gy,gz,i0,i4,i5,i6,i8,i9,ia,dc,ax,ie,ig,ii,de,dg,ij,ik,il,im,ip,iq,ir,iu,iv,iw,iy,j0,j3,j4,j5,j6,dh,j7,j8,j9,ja,jb]
    rw [kh (place_nat (by lia)) hv]
    refine ⟨intOk_nat (by lia), ?_⟩
    have hnm : md ∉ js := fun m => (hj _ m).2 (by lia)
    refine hk js _ _ _ hn (fun j m => (hj j m).1) (by lia) (by lia) hnm hv ?_
    have hn' : (js ++ [md]).Nodup := by
      rw [List.nodup_append]
      exact ⟨hn, by simp, fun a ha b hb => by rw [List.mem_singleton.mp hb]; exact fun e => hnm (e ▸ ha)⟩
    have hj' : ∀ (lo2 hi2 : Nat), lo' ≤ lo2 → hi2 ≤ hi' → ¬ (lo2 ≤ md ∧ md < hi2) → ∀ j ∈ js ++ [md], (lo ≤ j ∧ j < hi) ∧ ¬ (lo2 ≤ j ∧ j < hi2) := fun lo2 hi2 a b c j m => by
      rcases List.mem_append.mp m with m | m
      · have := hj j m; lia
      · rw [List.mem_singleton.mp m]; lia
    rw [hp _ (by lia) (by lia)]
    simp only [ay,di,dk,dl,ad,az,b0,ba,bb,ae,bc,bd,bg,bh,bj,bk,af,bl,ag,bn,bp,br,bs,bt,ah,ai,bv,aj,bw,ab,ak,bx,bz,al,c6,am,dn,dp,dq,dr,c7,du,dw,dx,dy,dz,ao,ap,c8,c9,ce,aq,au,aa,cf,cj,ck,cm,co,cq,cu,av,cw,cx,cy,cz,aw,d8,d9,a9,a8,e9,ee,ew,f0,f8,f9,fb,fe,ff,fg,fh,fi,fj,fk,fo,fq,fs,ft,fu,fw,fx,da,fy,db,g0,ge,gf,gg,gh,gi,gj,gk,gl,gm,gn,gp,gq,gs,gt,gu,gv,gw,gx,gy,gz,i0,i4,i5,i6,i8,i9,ia,dc,ax,ie,ig,ii,de,dg,ij,ik,il,im,ip,iq,ir,iu,iv,iw,iy,j0,j3,j4,j5,j6,dh,j7,j8,j9,ja,jb]
    cases hd : decide (t ≤ md) with
    | true =>
      have hlt2 := of_decide_eq_true hd
      simp only [Bool.not_false,Bool.not_true,Bool.true_and,Bool.false_and,Bool.and_true,b18,ay,di,dk,dl,ad,az,b0,ba,bb,ae,bc,bd,bg,bh,bj,bk,af,bl,ag,bn,bp,br,bs,bt,ah,ai,bv,aj,bw,ab,ak,bx,bz,al,c6,am,dn,dp,dq,dr,c7,du,dw,dx,dy,dz,ao,ap,c8,c9,ce,aq,au,aa,cf,cj,ck,cm,co,cq,cu,av,cw,cx,cy,cz,aw,d8,d9,a9,a8,e9,ee,ew,f0,f8,f9,fb,fe,ff,fg,fh,fi,fj,fk,fo,fq,fs,ft,fu,fw,fx,da,fy,db,g0,ge,gf,gg,gh,gi,gj,gk,gl,gm,gn,gp,gq,gs,gt,gu,gv,gw,gx,gy,gz,i0,i4,i5,i6,i8,i9,ia,dc,ax,ie,ig,ii,de,dg,ij,ik,il,im,ip,iq,ir,iu,iv,iw,iy,j0,j3,j4,j5,j6,dh,j7,j8,j9,ja,jb,n6,n7,na,nf,ng,nh]
      exact hK (md - lo') (by lia) _ _ _ _ hn' (hj' _ _ (by lia) (by lia) (by lia)) (Nat.le_refl _) (by lia) q1 hlt2 (by lia)
    | false =>
      have hlt2 := of_decide_eq_false hd
      simp only [Bool.not_false,Bool.not_true,Bool.true_and,Bool.false_and,Bool.and_true,b20,ay,di,dk,dl,ad,az,b0,ba,bb,ae,bc,bd,bg,bh,bj,bk,af,bl,ag,bn,bp,br,bs,bt,ah,ai,bv,aj,bw,ab,ak,bx,bz,al,c6,am,dn,dp,dq,dr,c7,du,dw,dx,dy,dz,ao,ap,c8,c9,ce,aq,au,aa,cf,cj,ck,cm,co,cq,cu,av,cw,cx,cy,cz,aw,d8,d9,a9,a8,e9,ee,ew,f0,f8,f9,fb,fe,ff,fg,fh,fi,fj,fk,fo,fq,fs,ft,fu,fw,fx,da,fy,db,g0,ge,gf,gg,gh,gi,gj,gk,gl,gm,gn,gp,gq,gs,gt,gu,gv,gw,gx,gy,gz,i0,i4,i5,i6,i8,i9,ia,dc,ax,ie,ig,ii,de,dg,ij,ik,il,im,ip,iq,ir,iu,iv,iw,iy,j0,j3,j4,j5,j6,dh,j7,j8,j9,ja,jb,n6,n7,na,nf,ng,nh]
      exact hK (hi' - (md + 1)) (by lia) (md + 1) hi' _ _ hn' (hj' _ _ (by lia) (by lia) (by lia)) (Nat.le_refl _) (by lia) (by lia) q2 q3
theorem c_rk (S : SetOk G) {d : Nat} {xs : List MV} {k : Nat} {cs : List MV} {lo hi t : Nat} {I : List Nat → MH} {p : Nat → Bool} {Q : MV → MH → Prop} (hl : xs.length ≤ 2 ^ 20) (h1 : lo ≤ t) (h2 : t ≤ hi) (h3 : hi ≤ xs.length)
    (hp : ∀ i, lo ≤ i → i < hi → p i = decide (t ≤ i))
    (hk : ∀ (js : List Nat) (i : Nat) (x : MV) (Q : MV → MH → Prop), js.Nodup → (∀ j ∈ js, lo ≤ j ∧ j < hi) → lo ≤ i → i < hi → i ∉ js → xs[i]? = some x → Q (.bool (p i)) (I (js ++ [i])) → Calls G d (.clo k cs) [x] [] (I js) Q)
    (hq : ∀ js : List Nat, js.Nodup → (∀ j ∈ js, lo ≤ j ∧ j < hi) → Q (.int t) (I js)) :
    Calls G (d + 1) (.fn 23) [.list xs, .bool false, .int lo, .int hi] [("key", .clo k cs)] (I []) Q := by
  refine calls_fn S.st S.f_bisect_right.fn (bd_bisect_rightk S _ _ _ _ _) ?_
  have e : l0 ll [("a", .list xs), ("x", .bool false), ("lo", .int lo), ("hi", .int hi), ("key", .clo k cs)] = [some (.list xs), some (.bool false), some (.int lo), some (.int hi), some (.clo k cs), none] := rfl
  rw [e, oq, b3]
  have z : decide ((lo : Int) < 0) = false := decide_eq_false (by lia)
  simp only [b5,z,ay,di,dk,dl,ad,az,b0,ba,bb,ae,bc,bd,bg,bh,bj,bk,af,bl,ag,bn,bp,br,bs,bt,ah,ai,bv,aj,bw,ab,ak,bx,bz,al,c6,am,dn,dp,dq,dr,c7,du,dw,dx,dy,dz,ao,ap,c8,c9,ce,aq,au,aa,cf,cj,ck,cm,co,cq,cu,av,cw,cx,cy,cz,aw,d8,d9,a9,a8,e9,ee,ew,f0,f8,f9,fb,fe,ff,fg,fh,fi,fj,fk,fo,fq,fs,ft,fu,fw,fx,da,fy,db,g0,ge,gf,gg,gh,gi,gj,gk,gl,gm,gn,gp,gq,gs,gt,gu,gv,gw,gx,gy,gz,i0,i4,i5,i6,i8,i9,ia,dc,ax,ie,ig,ii,de,dg,ij,ik,il,im,ip,iq,ir,iu,iv,iw,iy,j0,j3,j4,j5,j6,dh,j7,j8,j9,ja,jb]
  exact rk_tail S hl h1 h2 h3 hp hk hq
end Mine
namespace Mine
theorem and_nat (a b : Nat) : Builtin.bitAnd (a : Int) (b : Int) = ((a &&& b : Nat) : Int) := by
  rw [bitAnd_pp (Int.natCast_nonneg a) (Int.natCast_nonneg b)]; rfl
theorem or_nat (a b : Nat) : Builtin.bitOr (a : Int) (b : Int) = ((a ||| b : Nat) : Int) := by
  unfold Builtin.bitOr
  rw [bitAnd_nn (by unfold Builtin.bitNot; lia) (by unfold Builtin.bitNot; lia)]
  have e : ∀ x : Int, Builtin.bitNot (Builtin.bitNot x) = x := fun x => by unfold Builtin.bitNot; lia
  rw [e, e, e]; rfl
theorem and_mask (a k : Nat) : Builtin.bitAnd (a : Int) ((2 ^ k - 1 : Nat) : Int) = ((a % 2 ^ k : Nat) : Int) := by
  rw [and_nat, Nat.and_two_pow_sub_one_eq_mod]
theorem or_shl (a b k : Nat) (h : b < 2 ^ k) : Builtin.bitOr ((a * 2 ^ k : Nat) : Int) (b : Int) = ((a * 2 ^ k + b : Nat) : Int) := by
  rw [bitOr_and, and_nat]
  have : (a * 2 ^ k) &&& b = 0 := by
    refine Nat.eq_of_testBit_eq fun i => ?_
    rw [Nat.testBit_and, Nat.zero_testBit, Nat.testBit_mul_two_pow]
    by_cases hi : i < k
    · rw [decide_eq_false (by lia : ¬ k ≤ i)]; rfl
    · rw [Nat.testBit_lt_two_pow (Nat.lt_of_lt_of_le h (Nat.pow_le_pow_right (by decide) (Nat.le_of_not_lt hi)))]; simp
  rw [this]; push_cast; lia
theorem xor_low (x k : Nat) : Builtin.bitXor (x : Int) ((x / 2 ^ k * 2 ^ k : Nat) : Int) = ((x % 2 ^ k : Nat) : Int) := by
  unfold Builtin.bitXor
  rw [bitOr_and, and_nat]
  have : x &&& (x / 2 ^ k * 2 ^ k) = x / 2 ^ k * 2 ^ k := by
    refine Nat.eq_of_testBit_eq fun i => ?_
    rw [Nat.testBit_and, Nat.testBit_mul_two_pow]
    by_cases hi : k ≤ i
    · rw [decide_eq_true hi, Bool.true_and, Nat.testBit_div_two_pow, Nat.sub_add_cancel hi, Bool.and_self]
    · rw [decide_eq_false hi]; simp
  rw [this]
  have e : x / 2 ^ k * 2 ^ k + x % 2 ^ k = x := by rw [Nat.mul_comm]; exact Nat.div_add_mod x _
  generalize x / 2 ^ k * 2 ^ k = u at *
  generalize x % 2 ^ k = v at *
  lia
theorem bits_le {n k : Nat} (h : n < 2 ^ k) : Builtin.Int.intBits (n : Int) ≤ k := intBits_le (by simpa using h)
theorem lt_bits (n : Nat) : n < 2 ^ Builtin.Int.intBits (n : Int) := by
  unfold Builtin.Int.intBits
  by_cases h : n = 0
  · subst h; decide
  · have : ((n : Int) == 0) = false := by simpa using h
    rw [this]; exact Nat.lt_log2_self
theorem bits_ge {n k : Nat} (h : 2 ^ k ≤ n) : k < Builtin.Int.intBits (n : Int) := by
  refine Nat.lt_of_not_le fun q => ?_
  have := lt_bits n
  have h2 := Nat.pow_le_pow_right (n := 2) (by decide) q
  lia
theorem bits_zero : Builtin.Int.intBits (0 : Int) = 0 := rfl
theorem log2_lt' {a k : Nat} (h : a < 2 ^ k) (h0 : a ≠ 0) : a.log2 < k := (Nat.log2_lt h0).mpr h
theorem no_py {a b n : Nat} (hb : 2 ^ (n - 1) ≤ b) (ha : a < 2 ^ (n + 4000)) : Builtin.divisionGoesByPylong (a : Int) (b : Int) = false := by
  unfold Builtin.divisionGoesByPylong
  have hb0 : ((b : Int) == 0) = false := by have := Nat.pow_pos (n := n - 1) (show 0 < 2 by decide); simp; lia
  have hb1 : (b : Int).natAbs = b := rfl
  have ha1 : (a : Int).natAbs = a := rfl
  have hl : n - 1 ≤ b.log2 := (Nat.le_log2 (by have := Nat.pow_pos (n := n - 1) (show 0 < 2 by decide); lia)).mpr hb
  rw [Bool.and_eq_false_iff]
  right
  simp only [hb0, hb1, ha1]
  by_cases h0 : ((a : Int) == 0) = true
  · rw [if_pos h0]; exact decide_eq_false (by lia)
  · rw [if_neg h0]
    have : a.log2 < n + 4000 := log2_lt' ha (by simpa using h0)
    refine decide_eq_false ?_
    simp only [Bool.false_eq_true, if_false]
    lia
theorem fdiv_nat (a b : Nat) : ((a : Int)).fdiv (b : Int) = ((a / b : Nat) : Int) := by rw [Int.fdiv_eq_ediv_of_nonneg _ (Int.natCast_nonneg b)]; rfl
theorem fmod_nat (a b : Nat) : ((a : Int)).fmod (b : Int) = ((a % b : Nat) : Int) := by rw [Int.fmod_eq_emod_of_nonneg _ (Int.natCast_nonneg b)]; rfl
theorem pow_cast (k : Nat) : (2 : Int) ^ k = ((2 ^ k : Nat) : Int) := by push_cast; rfl
theorem shr_nat (a k : Nat) : (a : Int) / 2 ^ k = ((a / 2 ^ k : Nat) : Int) := by rw [pow_cast]; rfl
theorem shl_nat (a k : Nat) : (a : Int) * 2 ^ k = ((a * 2 ^ k : Nat) : Int) := by rw [pow_cast]; push_cast; rfl
theorem toNat_nat (k : Nat) : ((k : Int)).toNat = k := rfl
end Mine
namespace Mine
variable {G : Stat}
theorem small_mul {a b : Nat} (ha : a ≤ 2 ^ 40) (hb : b ≤ 2 ^ 40) : Builtin.Int.intBits (a : Int) + Builtin.Int.intBits (b : Int) ≤ 2 ^ 27 := by
  have h1 := bits_le (n := a) (k := 41) (by lia)
  have h2 := bits_le (n := b) (k := 41) (by lia)
  lia
theorem low_digit (x s m n : Nat) (h : m + n ≤ s) : x % 2 ^ s / 2 ^ m % 2 ^ n = x / 2 ^ m % 2 ^ n := by
  obtain ⟨r, rfl⟩ := Nat.exists_eq_add_of_le h
  refine Nat.eq_of_testBit_eq fun i => ?_
  simp only [Nat.testBit_mod_two_pow, Nat.testBit_div_two_pow]
  by_cases hi : i < n
  · rw [decide_eq_true hi, decide_eq_true (by lia : i + m < m + n + r)]; simp
  · rw [decide_eq_false hi]; simp
theorem high_digit (x s m n : Nat) : x / 2 ^ s / 2 ^ m % 2 ^ n = x / 2 ^ (s + m) % 2 ^ n := by
  rw [Nat.div_div_eq_div_mul, Nat.pow_add]
theorem in0_leaf {a n L x : Nat} {xs : List MV} {H0 : MH} {Q : MV → MH → Prop} (h5 : L + 1 ≤ xs.length) (h3 : x < 2 ^ (n * (L + 1 - L)))
    (hq : ∀ ys : List MV, ys.length = xs.length → (∀ i, ys[i]? = if L ≤ i ∧ i < L + 1 then some (.int ((x / 2 ^ (n * (i - L)) % 2 ^ n : Nat) : Int)) else xs[i]?) → Q .none ((a, ys) :: H0)) : Q .none ((a, xs.set L (.int x)) :: H0) := by
  refine hq _ (by rw [List.length_set]) fun i => ?_
  rw [List.getElem?_set]
  by_cases hi : i = L
  · subst hi
    rw [if_pos rfl, if_pos (Nat.lt_of_succ_le h5), if_pos ⟨Nat.le_refl _, Nat.lt_succ_self _⟩]
    rw [Nat.add_sub_cancel_left, Nat.mul_one] at h3
    rw [Nat.sub_self, Nat.mul_zero, Nat.pow_zero, Nat.div_one, Nat.mod_eq_of_lt h3]
  · rw [if_neg (Ne.symm hi), if_neg fun h => hi (Nat.le_antisymm (Nat.le_of_lt_succ h.2) h.1)]
theorem c_in0 (S : SetOk G) {a n : Nat} {H0 : MH} (ha : a ∉ keys H0) (hn1 : 1 ≤ n) (hn2 : n ≤ 2 ^ 20) : ∀ (d L R x : Nat) (xs : List MV) (Q : MV → MH → Prop), L < R → R - L ≤ 2 ^ d → x < 2 ^ (n * (R - L)) → n * (R - L) ≤ 2 ^ 20 → R ≤ xs.length → xs.length ≤ 2 ^ 20 →
    (∀ ys : List MV, ys.length = xs.length → (∀ i, ys[i]? = if L ≤ i ∧ i < R then some (.int ((x / 2 ^ (n * (i - L)) % 2 ^ n : Nat) : Int)) else xs[i]?) → Q .none ((a, ys) :: H0)) →
    Calls G (d + 1) (.clo 0 [.ref a, .int n]) [.int x, .int L, .int R] [] ((a, xs) :: H0) Q := by
  intro d
  induction d with
  | zero =>
    intro L R x xs Q h1 h2 h3 h4 h5 h6 hq
    have hR : R = L + 1 := by simp at h2; lia
    subst hR
    refine calls_clo S.st (gc_0 S) (body := oy) (by rw [S.clo]; rfl) (by kernel_rfl) (bc_0 S _ _ _) ?_
    have e : lc0 mf [("x", .int x), ("L", .int L), ("R", .int (L + 1 : Nat))] (frOf G 0 [.ref a, .int n]) = [some (.int x), some (.int L), some (.int (L + 1 : Nat)), none, none, none, none, some (.ref a), some (.clo 0 [.ref a, .int n]), some (.int n)] := by
      unfold frOf; rw [S.clo]; rfl
    rw [e, oy, b74]
    have c : ((L : Int) + 1 == ((L + 1 : Nat) : Int)) = true := by simp
    simp only [c,b75,b76,ay,di,dk,dl,ad,az,b0,ba,bb,ae,bc,bd,bg,bh,bj,bk,af,bl,ag,bn,bp,br,bs,bt,ah,ai,bv,aj,bw,ab,ak,bx,bz,al,c6,am,dn,dp,dq,dr,c7,du,dw,dx,dy,dz,ao,ap,c8,c9,ce,aq,au,aa,cf,cj,ck,cm,co,cq,cu,av,cw,cx,cy,cz,aw,d8,d9,a9,a8,e9,ee,ew,f0,f8,f9,fb,fe,ff,fg,fh,fi,fj,fk,fo,fq,fs,ft,fu,fw,fx,da,fy,db,g0,ge,gf,gg,gh,gi,gj,gk,gl,gm,gn,gp,gq,gs,gt,gu,gv,gw,gx,gy,gz,i0,i4,i5,i6,i8,i9,ia,dc,ax,ie,ig,ii,de,dg,ij,ik,il,im,ip,iq,ir,iu,iv,iw,iy,j0,j3,j4,j5,j6,dh,j7,j8,j9,ja,jb]
    rw [qr h_look]
    refine ⟨⟨by lia, by lia, h6⟩, ?_⟩
    rw [h_set ha]
    exact in0_leaf h5 h3 hq
  | succ d ih =>
    intro L R x xs Q h1 h2 h3 h4 h5 h6 hq
    refine calls_clo S.st (gc_0 S) (body := oy) (by rw [S.clo]; rfl) (by kernel_rfl) (bc_0 S _ _ _) ?_
    have e : lc0 mf [("x", .int x), ("L", .int L), ("R", .int R)] (frOf G 0 [.ref a, .int n]) = [some (.int x), some (.int L), some (.int R), none, none, none, none, some (.ref a), some (.clo 0 [.ref a, .int n]), some (.int n)] := by
      unfold frOf; rw [S.clo]; rfl
    rw [e, oy, b74]
    cases c : ((L : Int) + 1 == (R : Int)) with
    | true =>
      have hR : R = L + 1 := by have := beq_iff_eq.mp c; lia
      simp only [c,b75,b76,ay,di,dk,dl,ad,az,b0,ba,bb,ae,bc,bd,bg,bh,bj,bk,af,bl,ag,bn,bp,br,bs,bt,ah,ai,bv,aj,bw,ab,ak,bx,bz,al,c6,am,dn,dp,dq,dr,c7,du,dw,dx,dy,dz,ao,ap,c8,c9,ce,aq,au,aa,cf,cj,ck,cm,co,cq,cu,av,cw,cx,cy,cz,aw,d8,d9,a9,a8,e9,ee,ew,f0,f8,f9,fb,fe,ff,fg,fh,fi,fj,fk,fo,fq,fs,ft,fu,fw,fx,da,fy,db,g0,ge,gf,gg,gh,gi,gj,gk,gl,gm,gn,gp,gq,gs,gt,gu,gv,gw,gx,gy,gz,i0,i4,i5,i6,i8,i9,ia,dc,ax,ie,ig,ii,de,dg,ij,ik,il,im,ip,iq,ir,iu,iv,iw,iy,j0,j3,j4,j5,j6,dh,j7,j8,j9,ja,jb]
      rw [qr h_look]
      refine ⟨⟨by lia, by lia, h6⟩, ?_⟩
      rw [h_set ha]
      subst hR
      exact in0_leaf h5 h3 hq
    | false =>
      have hR : L + 2 ≤ R := by have : (L : Int) + 1 ≠ (R : Int) := fun q => Bool.false_ne_true (c.symm.trans (beq_iff_eq.mpr q)); lia
      simp only [c,b77,ay,di,dk,dl,ad,az,b0,ba,bb,ae,bc,bd,bg,bh,bj,bk,af,bl,ag,bn,bp,br,bs,bt,ah,ai,bv,aj,bw,ab,ak,bx,bz,al,c6,am,dn,dp,dq,dr,c7,du,dw,dx,dy,dz,ao,ap,c8,c9,ce,aq,au,aa,cf,cj,ck,cm,co,cq,cu,av,cw,cx,cy,cz,aw,d8,d9,a9,a8,e9,ee,ew,f0,f8,f9,fb,fe,ff,fg,fh,fi,fj,fk,fo,fq,fs,ft,fu,fw,fx,da,fy,db,g0,ge,gf,gg,gh,gi,gj,gk,gl,gm,gn,gp,gq,gs,gt,gu,gv,gw,gx,gy,gz,i0,i4,i5,i6,i8,i9,ia,dc,ax,ie,ig,ii,de,dg,ij,ik,il,im,ip,iq,ir,iu,iv,iw,iy,j0,j3,j4,j5,j6,dh,j7,j8,j9,ja,jb,s8,s9,sa,sd,se,sh,si]
      have em : ((L : Int) + (R : Int)) / 2 ^ (1 : Int).toNat = (((L + R) / 2 : Nat) : Int) := by
        show ((L : Int) + (R : Int)) / 2 ^ 1 = _; lia
      rw [em]
      have hm1 : L < (L + R) / 2 := by lia
      have hm2 : (L + R) / 2 < R := by lia
      have hm3 : (L + R) / 2 - L ≤ 2 ^ d := by rw [Nat.pow_succ] at h2; lia
      have hm4 : R - (L + R) / 2 ≤ 2 ^ d := by rw [Nat.pow_succ] at h2; lia
      generalize (L + R) / 2 = mid at *
      have es : (((mid : Int) - (L : Int)) * (n : Int)) = ((n * (mid - L) : Nat) : Int) := by
        rw [Int.mul_comm, Int.natCast_mul, Int.natCast_sub (by lia)]
      have hs : n * (R - L) = n * (mid - L) + n * (R - mid) := by rw [← Nat.mul_add]; congr 1; lia
      have eu : ((mid : Int) - (L : Int)) = ((mid - L : Nat) : Int) := by lia
      simp only [b78,b79,b80,b81,b82,ay,di,dk,dl,ad,az,b0,ba,bb,ae,bc,bd,bg,bh,bj,bk,af,bl,ag,bn,bp,br,bs,bt,ah,ai,bv,aj,bw,ab,ak,bx,bz,al,c6,am,dn,dp,dq,dr,c7,du,dw,dx,dy,dz,ao,ap,c8,c9,ce,aq,au,aa,cf,cj,ck,cm,co,cq,cu,av,cw,cx,cy,cz,aw,d8,d9,a9,a8,e9,ee,ew,f0,f8,f9,fb,fe,ff,fg,fh,fi,fj,fk,fo,fq,fs,ft,fu,fw,fx,da,fy,db,g0,ge,gf,gg,gh,gi,gj,gk,gl,gm,gn,gp,gq,gs,gt,gu,gv,gw,gx,gy,gz,i0,i4,i5,i6,i8,i9,ia,dc,ax,ie,ig,ii,de,dg,ij,ik,il,im,ip,iq,ir,iu,iv,iw,iy,j0,j3,j4,j5,j6,dh,j7,j8,j9,ja,jb,s8,s9,sa,sd,se,sh,si,es]
      refine ⟨by lia, ?_, by lia, ⟨by lia, ?_⟩, ?_⟩
      · rw [eu]; exact small_mul (by have := Nat.le_of_lt hm1; lia) (by lia)
      · rw [toNat_nat, shr_nat]
        have := bits_le (n := x / 2 ^ (n * (mid - L))) (k := n * (R - L)) (Nat.lt_of_le_of_lt (Nat.div_le_self _ _) h3)
        lia
      · rw [toNat_nat, shr_nat, shl_nat, xor_low]
        refine ih L mid _ xs _ hm1 hm3 (Nat.mod_lt _ (Nat.pow_pos (by decide))) (by lia) (by lia) h6 fun ys hy1 hy2 => ?_
        refine ⟨rfl, ih mid R _ ys _ hm2 hm4 ?_ (by lia) (by lia) (by lia) fun zs hz1 hz2 => ⟨rfl, ?_⟩⟩
        · rw [hs, Nat.pow_add] at h3
          exact Nat.div_lt_of_lt_mul h3
        · refine hq zs (by lia) fun i => ?_
          rw [hz2 i, hy2 i]
          by_cases i1 : mid ≤ i ∧ i < R
          · rw [if_pos i1, if_pos (by lia), high_digit]
            congr 6
            rw [← Nat.mul_add]; congr 1; lia
          · rw [if_neg i1]
            by_cases i2 : L ≤ i ∧ i < mid
            · rw [if_pos i2, if_pos (by lia), low_digit]
              have : n * (i - L) + n = n * (i - L + 1) := by rw [Nat.mul_succ]
              rw [this]
              exact Nat.mul_le_mul_left _ (by lia)
            · rw [if_neg i2, if_neg (by lia)]
end Mine
namespace Mine
variable {G : Stat}
noncomputable def digs (n L a : Nat) : List Nat := (List.range L).map fun i => a / 2 ^ (n * i) % 2 ^ n
noncomputable def dlen (n a : Nat) : Nat := (Builtin.Int.intBits (a : Int) + n - 1) / n
abbrev mints (l : List Nat) : List MV := l.map fun (k : Nat) => MV.int (k : Int)
theorem dlen_mul {n a : Nat} (hn : 1 ≤ n) : Builtin.Int.intBits (a : Int) ≤ n * dlen n a ∧ n * dlen n a ≤ Builtin.Int.intBits (a : Int) + n := by
  unfold dlen
  have h1 := Nat.div_add_mod (Builtin.Int.intBits (a : Int) + n - 1) n
  have h2 := Nat.mod_lt (Builtin.Int.intBits (a : Int) + n - 1) (show n > 0 by lia)
  lia
theorem digs_get {n L a i : Nat} : (mints (digs n L a))[i]? = if i < L then some (.int ((a / 2 ^ (n * i) % 2 ^ n : Nat) : Int)) else none := by
  unfold mints digs
  rw [List.getElem?_map, List.getElem?_map]
  by_cases h : i < L
  · rw [if_pos h, List.getElem?_range h]; rfl
  · rw [if_neg h, List.getElem?_eq_none (by rw [List.length_range]; lia)]; rfl
theorem no_py_small {a b : Nat} (ha : a ≤ 2 ^ 22) (hb : b ≤ 2 ^ 22) : Builtin.divisionGoesByPylong (a : Int) (b : Int) = false := by
  unfold Builtin.divisionGoesByPylong
  rw [Bool.and_eq_false_iff]
  left
  have hb1 : (b : Int).natAbs = b := rfl
  simp only [hb1]
  refine decide_eq_false ?_
  by_cases h0 : ((b : Int) == 0) = true
  · rw [if_pos h0]; lia
  · rw [if_neg h0]
    have : b.log2 < 23 := log2_lt' (by lia) (by simpa using h0)
    lia
theorem c_i2d (S : SetOk G) {d a n : Nat} {H0 : MH} {Q : MV → MH → Prop} (hn1 : 1 ≤ n) (hn2 : n ≤ 2 ^ 19) (hd : dlen n a ≤ 2 ^ d) (hb : Builtin.Int.intBits (a : Int) ≤ 2 ^ 19) (hq : Q (.list (mints (digs n (dlen n a) a))) H0) :
    Calls G (d + 2) (.fn 53) [.int a, .int n] [] H0 Q := by
  refine calls_fn S.st S.f__int2digits.fn (bd__int2digits S _ _) ?_
  have e : l0 lz [("a", .int a), ("n", .int n)] = [some (.int a), some (.int n), none, none] := rfl
  rw [e, oz, b71]
  simp only [b73,ay,di,dk,dl,ad,az,b0,ba,bb,ae,bc,bd,bg,bh,bj,bk,af,bl,ag,bn,bp,br,bs,bt,ah,ai,bv,aj,bw,ab,ak,bx,bz,al,c6,am,dn,dp,dq,dr,c7,du,dw,dx,dy,dz,ao,ap,c8,c9,ce,aq,au,aa,cf,cj,ck,cm,co,cq,cu,av,cw,cx,cy,cz,aw,d8,d9,a9,a8,e9,ee,ew,f0,f8,f9,fb,fe,ff,fg,fh,fi,fj,fk,fo,fq,fs,ft,fu,fw,fx,da,fy,db,g0,ge,gf,gg,gh,gi,gj,gk,gl,gm,gn,gp,gq,gs,gt,gu,gv,gw,gx,gy,gz,i0,i4,i5,i6,i8,i9,ia,dc,ax,ie,ig,ii,de,dg,ij,ik,il,im,ip,iq,ir,iu,iv,iw,iy,j0,j3,j4,j5,j6,dh,j7,j8,j9,ja,jb,wy,xa,xb,xe]
  have ec : ((Builtin.Int.intBits (a : Int) : Int) + (n : Int) - 1) = ((Builtin.Int.intBits (a : Int) + n - 1 : Nat) : Int) := by lia
  have ed : (Builtin.Int.intBits (a : Int) + n - 1) / n = dlen n a := rfl
  obtain ⟨hl1, hl2⟩ := dlen_mul (a := a) hn1
  have hl3 : dlen n a ≤ n * dlen n a := Nat.le_mul_of_pos_left _ (by lia)
  rw [ec, fdiv_nat, ed]
  refine ⟨by simp, ⟨by lia, no_py_small (by lia) (by lia)⟩, ⟨by lia, by lia⟩, fun a' ha' => ⟨co_0 S, ⟨⟨_, rfl⟩, by decide⟩, ?_⟩⟩
  have ecap : capV [some (MV.int a), some (MV.int n), some (MV.ref a'), none] cap_0 = some [.ref a', .int n] := rfl
  rw [ecap]
  simp only [b83,ay,di,dk,dl,ad,az,b0,ba,bb,ae,bc,bd,bg,bh,bj,bk,af,bl,ag,bn,bp,br,bs,bt,ah,ai,bv,aj,bw,ab,ak,bx,bz,al,c6,am,dn,dp,dq,dr,c7,du,dw,dx,dy,dz,ao,ap,c8,c9,ce,aq,au,aa,cf,cj,ck,cm,co,cq,cu,av,cw,cx,cy,cz,aw,d8,d9,a9,a8,e9,ee,ew,f0,f8,f9,fb,fe,ff,fg,fh,fi,fj,fk,fo,fq,fs,ft,fu,fw,fx,da,fy,db,g0,ge,gf,gg,gh,gi,gj,gk,gl,gm,gn,gp,gq,gs,gt,gu,gv,gw,gx,gy,gz,i0,i4,i5,i6,i8,i9,ia,dc,ax,ie,ig,ii,de,dg,ij,ik,il,im,ip,iq,ir,iu,iv,iw,iy,j0,j3,j4,j5,j6,dh,j7,j8,j9,ja,jb,toNat_nat]
  cases hc : ((a : Int) != 0) with
  | false =>
    have h0 : a = 0 := by simpa using hc
    have hz : dlen n a = 0 := by subst h0; show (0 + n - 1) / n = 0; exact Nat.div_eq_of_lt (by lia)
    rw [hz] at hq ⊢
    simp only [b85,ay,di,dk,dl,ad,az,b0,ba,bb,ae,bc,bd,bg,bh,bj,bk,af,bl,ag,bn,bp,br,bs,bt,ah,ai,bv,aj,bw,ab,ak,bx,bz,al,c6,am,dn,dp,dq,dr,c7,du,dw,dx,dy,dz,ao,ap,c8,c9,ce,aq,au,aa,cf,cj,ck,cm,co,cq,cu,av,cw,cx,cy,cz,aw,d8,d9,a9,a8,e9,ee,ew,f0,f8,f9,fb,fe,ff,fg,fh,fi,fj,fk,fo,fq,fs,ft,fu,fw,fx,da,fy,db,g0,ge,gf,gg,gh,gi,gj,gk,gl,gm,gn,gp,gq,gs,gt,gu,gv,gw,gx,gy,gz,i0,i4,i5,i6,i8,i9,ia,dc,ax,ie,ig,ii,de,dg,ij,ik,il,im,ip,iq,ir,iu,iv,iw,iy,j0,j3,j4,j5,j6,dh,j7,j8,j9,ja,jb,h_look,h_del ha']
    exact ⟨_, .refl _, hq⟩
  | true =>
    have h0 : a ≠ 0 := by simpa using hc
    have hlt := lt_bits a
    have hz : 0 < dlen n a := Nat.pos_of_ne_zero fun q => by
      rw [q, Nat.mul_zero] at hl1
      have : Builtin.Int.intBits (a : Int) = 0 := by lia
      rw [this] at hlt; simp at hlt; exact h0 hlt
    simp only [b84,ay,di,dk,dl,ad,az,b0,ba,bb,ae,bc,bd,bg,bh,bj,bk,af,bl,ag,bn,bp,br,bs,bt,ah,ai,bv,aj,bw,ab,ak,bx,bz,al,c6,am,dn,dp,dq,dr,c7,du,dw,dx,dy,dz,ao,ap,c8,c9,ce,aq,au,aa,cf,cj,ck,cm,co,cq,cu,av,cw,cx,cy,cz,aw,d8,d9,a9,a8,e9,ee,ew,f0,f8,f9,fb,fe,ff,fg,fh,fi,fj,fk,fo,fq,fs,ft,fu,fw,fx,da,fy,db,g0,ge,gf,gg,gh,gi,gj,gk,gl,gm,gn,gp,gq,gs,gt,gu,gv,gw,gx,gy,gz,i0,i4,i5,i6,i8,i9,ia,dc,ax,ie,ig,ii,de,dg,ij,ik,il,im,ip,iq,ir,iu,iv,iw,iy,j0,j3,j4,j5,j6,dh,j7,j8,j9,ja,jb]
    rw [qt h_look, List.length_replicate]
    refine ⟨by lia, c_in0 S ha' hn1 (by lia) d 0 (dlen n a) a _ _ hz (by lia) ?_ (by rw [Nat.sub_zero]; lia) (by rw [List.length_replicate]; exact Nat.le_refl _) (by rw [List.length_replicate]; lia) fun ys hy1 hy2 => ⟨rfl, ?_⟩⟩
    · exact Nat.lt_of_lt_of_le hlt (Nat.pow_le_pow_right (by decide) (by rw [Nat.sub_zero]; exact hl1))
    · simp only [b85,ay,di,dk,dl,ad,az,b0,ba,bb,ae,bc,bd,bg,bh,bj,bk,af,bl,ag,bn,bp,br,bs,bt,ah,ai,bv,aj,bw,ab,ak,bx,bz,al,c6,am,dn,dp,dq,dr,c7,du,dw,dx,dy,dz,ao,ap,c8,c9,ce,aq,au,aa,cf,cj,ck,cm,co,cq,cu,av,cw,cx,cy,cz,aw,d8,d9,a9,a8,e9,ee,ew,f0,f8,f9,fb,fe,ff,fg,fh,fi,fj,fk,fo,fq,fs,ft,fu,fw,fx,da,fy,db,g0,ge,gf,gg,gh,gi,gj,gk,gl,gm,gn,gp,gq,gs,gt,gu,gv,gw,gx,gy,gz,i0,i4,i5,i6,i8,i9,ia,dc,ax,ie,ig,ii,de,dg,ij,ik,il,im,ip,iq,ir,iu,iv,iw,iy,j0,j3,j4,j5,j6,dh,j7,j8,j9,ja,jb,h_look,h_del ha']
      refine ⟨_, .refl _, ?_⟩
      have : ys = mints (digs n (dlen n a) a) := by
        refine List.ext_getElem? fun i => ?_
        rw [hy2 i, digs_get]
        by_cases hi : i < dlen n a
        · rw [if_pos ⟨Nat.zero_le _, hi⟩, if_pos hi, Nat.sub_zero]
        · rw [if_neg (by lia), if_neg hi, List.getElem?_eq_none (by rw [List.length_replicate]; lia)]
      rw [this]; exact hq
noncomputable def dval (n : Nat) : List Nat → Nat
  | [] => 0
  | d :: r => d + 2 ^ n * dval n r
theorem dval_append {n : Nat} : ∀ (xs ys : List Nat), dval n (xs ++ ys) = dval n xs + 2 ^ (n * xs.length) * dval n ys
  | [], ys => by simp [dval]
  | d :: r, ys => by
    rw [List.cons_append, dval, dval, dval_append r ys, List.length_cons, Nat.mul_succ, Nat.add_comm (n * r.length) n, Nat.pow_add, Nat.mul_add, Nat.mul_assoc]; lia
theorem dval_lt {n : Nat} : ∀ (xs : List Nat), (∀ d ∈ xs, d < 2 ^ n) → dval n xs < 2 ^ (n * xs.length)
  | [], _ => by simp [dval]
  | d :: r, h => by
    have h1 := h d (.head _)
    have h2 := dval_lt r fun x hx => h x (.tail _ hx)
    rw [dval, List.length_cons, Nat.mul_succ, Nat.add_comm (n * r.length) n, Nat.pow_add]
    have : 2 ^ n * (dval n r + 1) ≤ 2 ^ n * 2 ^ (n * r.length) := Nat.mul_le_mul_left _ h2
    rw [Nat.mul_add, Nat.mul_one] at this
    lia
theorem c_in1 (S : SetOk G) {n : Nat} {H : MH} {ds : List Nat} (hn2 : n ≤ 2 ^ 20) (hds : ∀ d ∈ ds, d < 2 ^ n) (hlen : n * ds.length ≤ 2 ^ 20) (hlen2 : ds.length ≤ 2 ^ 20) : ∀ (d L R : Nat) (Q : MV → MH → Prop), L < R → R - L ≤ 2 ^ d → R ≤ ds.length →
    Q (.int (dval n ((ds.drop L).take (R - L)) : Nat)) H →
    Calls G (d + 1) (.clo 1 [.list (mints ds), .int n]) [.int L, .int R] [] H Q := by
  intro d
  induction d with
  | zero =>
    intro L R Q h1 h2 h3 hq
    have hR : R = L + 1 := by simp at h2; lia
    subst hR
    refine calls_clo S.st (gc_1 S) (body := p0) (by rw [S.clo]; rfl) (by kernel_rfl) (bc_1 S _ _) ?_
    have e : lc0 mv [("L", .int L), ("R", .int (L + 1 : Nat))] (frOf G 1 [.list (mints ds), .int n]) = [some (.int L), some (.int (L + 1 : Nat)), none, none, some (.list (mints ds)), some (.clo 1 [.list (mints ds), .int n]), some (.int n)] := by
      unfold frOf; rw [S.clo]; rfl
    rw [e, p0, b89]
    have c : ((L : Int) + 1 == ((L + 1 : Nat) : Int)) = true := by simp
    simp only [c,b90,ay,di,dk,dl,ad,az,b0,ba,bb,ae,bc,bd,bg,bh,bj,bk,af,bl,ag,bn,bp,br,bs,bt,ah,ai,bv,aj,bw,ab,ak,bx,bz,al,c6,am,dn,dp,dq,dr,c7,du,dw,dx,dy,dz,ao,ap,c8,c9,ce,aq,au,aa,cf,cj,ck,cm,co,cq,cu,av,cw,cx,cy,cz,aw,d8,d9,a9,a8,e9,ee,ew,f0,f8,f9,fb,fe,ff,fg,fh,fi,fj,fk,fo,fq,fs,ft,fu,fw,fx,da,fy,db,g0,ge,gf,gg,gh,gi,gj,gk,gl,gm,gn,gp,gq,gs,gt,gu,gv,gw,gx,gy,gz,i0,i4,i5,i6,i8,i9,ia,dc,ax,ie,ig,ii,de,dg,ij,ik,il,im,ip,iq,ir,iu,iv,iw,iy,j0,j3,j4,j5,j6,dh,j7,j8,j9,ja,jb]
    have hg : ds[L]? = some ds[L] := List.getElem?_eq_getElem _
    have hg2 : (mints ds)[L]? = some (.int (ds[L] : Nat)) := by rw [List.getElem?_map, hg]; rfl
    rw [kh (place_nat (by rw [List.length_map]; lia)) hg2]
    refine ⟨intOk_nat (by lia), _, .refl _, ?_⟩
    have ht : (ds.drop L).take (L + 1 - L) = [ds[L]] := by
      rw [Nat.add_sub_cancel_left, List.drop_eq_getElem_cons (by lia)]; rfl
    rw [ht] at hq
    simpa [dval] using hq
  | succ d ih =>
    intro L R Q h1 h2 h3 hq
    refine calls_clo S.st (gc_1 S) (body := p0) (by rw [S.clo]; rfl) (by kernel_rfl) (bc_1 S _ _) ?_
    have e : lc0 mv [("L", .int L), ("R", .int R)] (frOf G 1 [.list (mints ds), .int n]) = [some (.int L), some (.int R), none, none, some (.list (mints ds)), some (.clo 1 [.list (mints ds), .int n]), some (.int n)] := by
      unfold frOf; rw [S.clo]; rfl
    rw [e, p0, b89]
    cases c : ((L : Int) + 1 == (R : Int)) with
    | true =>
      have hR : R = L + 1 := by have := beq_iff_eq.mp c; lia
      subst hR
      simp only [c,b90,ay,di,dk,dl,ad,az,b0,ba,bb,ae,bc,bd,bg,bh,bj,bk,af,bl,ag,bn,bp,br,bs,bt,ah,ai,bv,aj,bw,ab,ak,bx,bz,al,c6,am,dn,dp,dq,dr,c7,du,dw,dx,dy,dz,ao,ap,c8,c9,ce,aq,au,aa,cf,cj,ck,cm,co,cq,cu,av,cw,cx,cy,cz,aw,d8,d9,a9,a8,e9,ee,ew,f0,f8,f9,fb,fe,ff,fg,fh,fi,fj,fk,fo,fq,fs,ft,fu,fw,fx,da,fy,db,g0,ge,gf,gg,gh,gi,gj,gk,gl,gm,gn,gp,gq,gs,gt,gu,gv,gw,gx,gy,gz,i0,i4,i5,i6,i8,i9,ia,dc,ax,ie,ig,ii,de,dg,ij,ik,il,im,ip,iq,ir,iu,iv,iw,iy,j0,j3,j4,j5,j6,dh,j7,j8,j9,ja,jb]
      have hg : ds[L]? = some ds[L] := List.getElem?_eq_getElem _
      have hg2 : (mints ds)[L]? = some (.int (ds[L] : Nat)) := by rw [List.getElem?_map, hg]; rfl
      rw [kh (place_nat (by rw [List.length_map]; lia)) hg2]
      refine ⟨intOk_nat (by lia), _, .refl _, ?_⟩
      have ht : (ds.drop L).take (L + 1 - L) = [ds[L]] := by
        rw [Nat.add_sub_cancel_left, List.drop_eq_getElem_cons (by lia)]; rfl
      rw [ht] at hq
      simpa [dval] using hq
    | false =>
      have hR : L + 2 ≤ R := by have : (L : Int) + 1 ≠ (R : Int) := fun q => Bool.false_ne_true (c.symm.trans (beq_iff_eq.mpr q)); lia
      simp only [c,b91,ay,di,dk,dl,ad,az,b0,ba,bb,ae,bc,bd,bg,bh,bj,bk,af,bl,ag,bn,bp,br,bs,bt,ah,ai,bv,aj,bw,ab,ak,bx,bz,al,c6,am,dn,dp,dq,dr,c7,du,dw,dx,dy,dz,ao,ap,c8,c9,ce,aq,au,aa,cf,cj,ck,cm,co,cq,cu,av,cw,cx,cy,cz,aw,d8,d9,a9,a8,e9,ee,ew,f0,f8,f9,fb,fe,ff,fg,fh,fi,fj,fk,fo,fq,fs,ft,fu,fw,fx,da,fy,db,g0,ge,gf,gg,gh,gi,gj,gk,gl,gm,gn,gp,gq,gs,gt,gu,gv,gw,gx,gy,gz,i0,i4,i5,i6,i8,i9,ia,dc,ax,ie,ig,ii,de,dg,ij,ik,il,im,ip,iq,ir,iu,iv,iw,iy,j0,j3,j4,j5,j6,dh,j7,j8,j9,ja,jb,sj,sk,sm,sn]
      have em : ((L : Int) + (R : Int)) / 2 ^ (1 : Int).toNat = (((L + R) / 2 : Nat) : Int) := by
        show ((L : Int) + (R : Int)) / 2 ^ 1 = _; lia
      rw [em]
      have hm1 : L < (L + R) / 2 := by lia
      have hm2 : (L + R) / 2 < R := by lia
      have hm3 : (L + R) / 2 - L ≤ 2 ^ d := by rw [Nat.pow_succ] at h2; lia
      have hm4 : R - (L + R) / 2 ≤ 2 ^ d := by rw [Nat.pow_succ] at h2; lia
      generalize (L + R) / 2 = mid at *
      have es : (((mid : Int) - (L : Int)) * (n : Int)) = ((n * (mid - L) : Nat) : Int) := by
        rw [Int.mul_comm, Int.natCast_mul, Int.natCast_sub (by lia)]
      have eu : ((mid : Int) - (L : Int)) = ((mid - L : Nat) : Int) := by lia
      simp only [b92,b93,ay,di,dk,dl,ad,az,b0,ba,bb,ae,bc,bd,bg,bh,bj,bk,af,bl,ag,bn,bp,br,bs,bt,ah,ai,bv,aj,bw,ab,ak,bx,bz,al,c6,am,dn,dp,dq,dr,c7,du,dw,dx,dy,dz,ao,ap,c8,c9,ce,aq,au,aa,cf,cj,ck,cm,co,cq,cu,av,cw,cx,cy,cz,aw,d8,d9,a9,a8,e9,ee,ew,f0,f8,f9,fb,fe,ff,fg,fh,fi,fj,fk,fo,fq,fs,ft,fu,fw,fx,da,fy,db,g0,ge,gf,gg,gh,gi,gj,gk,gl,gm,gn,gp,gq,gs,gt,gu,gv,gw,gx,gy,gz,i0,i4,i5,i6,i8,i9,ia,dc,ax,ie,ig,ii,de,dg,ij,ik,il,im,ip,iq,ir,iu,iv,iw,iy,j0,j3,j4,j5,j6,dh,j7,j8,j9,ja,jb,sj,sk,sm,sn,es]
      refine ⟨by lia, ?_, ?_⟩
      · rw [eu]; exact small_mul (by lia) (by lia)
      have mem : ∀ (A B : Nat) (x : Nat), x ∈ (ds.drop A).take B → x < 2 ^ n := fun A B x hx => hds x (List.mem_of_mem_drop (List.mem_of_mem_take hx))
      have len : ∀ (A B : Nat), A + B ≤ ds.length → ((ds.drop A).take B).length = B := fun A B h => by rw [List.length_take, List.length_drop]; lia
      have hle : n * (mid - L) ≤ 2 ^ 20 := Nat.le_trans (Nat.mul_le_mul_left n (by lia : mid - L ≤ ds.length)) hlen
      have hle2 : n * (R - mid) ≤ 2 ^ 20 := Nat.le_trans (Nat.mul_le_mul_left n (by lia : R - mid ≤ ds.length)) hlen
      refine ih mid R _ hm2 hm4 h3 ?_
      refine ⟨⟨by lia, ?_⟩, ?_⟩
      · have := dval_lt _ (mem mid (R - mid))
        rw [len mid (R - mid) (by lia)] at this
        have := bits_le this
        lia
      · refine ih L mid _ hm1 hm3 (by lia) ⟨_, .refl _, ?_⟩
        have hsplit : (ds.drop L).take (R - L) = (ds.drop L).take (mid - L) ++ (ds.drop mid).take (R - mid) := by
          have h1 : R - L = (mid - L) + (R - mid) := by lia
          rw [h1, List.take_add, List.drop_drop]
          congr 3; lia
        rw [hsplit, dval_append, len L (mid - L) (by lia)] at hq
        rw [toNat_nat, shl_nat, ← Int.natCast_add, Nat.mul_comm, Nat.add_comm]
        exact hq
theorem c_d2i (S : SetOk G) {d n : Nat} {H : MH} {ds : List Nat} {Q : MV → MH → Prop} (hn2 : n ≤ 2 ^ 20) (hds : ∀ d ∈ ds, d < 2 ^ n) (hlen : n * ds.length ≤ 2 ^ 20) (hlen2 : ds.length ≤ 2 ^ 20) (hd : ds.length ≤ 2 ^ d)
    (hq : Q (.int (dval n ds : Nat)) H) : Calls G (d + 2) (.fn 60) [.list (mints ds), .int n] [] H Q := by
  refine calls_fn S.st S.f__digits2int.fn (bd__digits2int S _ _) ?_
  have e : l0 mh [("digits", .list (mints ds)), ("n", .int n)] = [some (.list (mints ds)), some (.int n), none] := rfl
  rw [e, p7, b88]
  simp only [aw, a8]
  refine ⟨co_1 S, ⟨⟨_, rfl⟩, rfl, by decide⟩, ?_⟩
  have ecap : capV [some (.list (mints ds)), some (MV.int n), none] cap_1 = some [.list (mints ds), .int n] := rfl
  rw [ecap]
  simp only [b94,ay,di,dk,dl,ad,az,b0,ba,bb,ae,bc,bd,bg,bh,bj,bk,af,bl,ag,bn,bp,br,bs,bt,ah,ai,bv,aj,bw,ab,ak,bx,bz,al,c6,am,dn,dp,dq,dr,c7,du,dw,dx,dy,dz,ao,ap,c8,c9,ce,aq,au,aa,cf,cj,ck,cm,co,cq,cu,av,cw,cx,cy,cz,aw,d8,d9,a9,a8,e9,ee,ew,f0,f8,f9,fb,fe,ff,fg,fh,fi,fj,fk,fo,fq,fs,ft,fu,fw,fx,da,fy,db,g0,ge,gf,gg,gh,gi,gj,gk,gl,gm,gn,gp,gq,gs,gt,gu,gv,gw,gx,gy,gz,i0,i4,i5,i6,i8,i9,ia,dc,ax,ie,ig,ii,de,dg,ij,ik,il,im,ip,iq,ir,iu,iv,iw,iy,j0,j3,j4,j5,j6,dh,j7,j8,j9,ja,jb,List.length_map]
  refine ⟨hlen2, ?_⟩
  cases ds with
  | nil => simp only [List.map_nil, List.isEmpty_nil, Bool.not_true]; exact ⟨_, .refl _, hq⟩
  | cons x r =>
    simp only [List.map_cons, List.isEmpty_cons, Bool.not_false]
    refine ⟨hlen2, ?_⟩
    refine c_in1 S hn2 hds hlen hlen2 d 0 (x :: r).length _ (by simp) (by lia) (Nat.le_refl _) ⟨_, .refl _, ?_⟩
    rw [List.drop_zero, Nat.sub_zero, List.take_length]
    exact hq
end Mine
namespace Mine
variable {G : Stat}
theorem bits_le_of {a k : Nat} (h : Builtin.Int.intBits (a : Int) ≤ k) : a < 2 ^ k := Nat.lt_of_lt_of_le (lt_bits a) (Nat.pow_le_pow_right (by decide) h)
theorem ediv_unique {A q r b : Int} (h : q * b + r = A) (h0 : 0 ≤ r) (h1 : r < b) : A / b = q ∧ A % b = r := by
  have hb : 0 < b := by lia
  subst h
  refine ⟨?_, ?_⟩
  · rw [Int.add_comm, Int.add_mul_ediv_right _ _ (by lia), Int.ediv_eq_zero_of_lt h0 h1, Int.zero_add]
  · rw [Int.add_comm, Int.add_mul_emod_self_right, Int.emod_eq_of_lt h0 h1]
theorem d3_tail (S : SetOk G) {d A b : Nat} {q r x0 x1 x3 x4 x5 : Int} {H : MH} {N : Loc → MH → Prop} {Q : MV → MH → Prop} (hb : 0 < b) (h1 : q * b + r = A) (h2 : r < b) (hq : Q (.tup [.int (A / b : Nat), .int (A % b : Nat)]) H) :
    exs G d b66 lp [some (.int x0), some (.int x1), some (.int b), some (.int x3), some (.int x4), some (.int x5), some (.int q), some (.int r)] H N Q := by
  rw [b66]
  simp only [a8]
  refine whl_ch (fun n T => ∀ q r : Int, (-r).toNat ≤ n → q * b + r = A → r < b → T [some (.int x0), some (.int x1), some (.int b), some (.int x3), some (.int x4), some (.int x5), some (.int q), some (.int r)] H) _
    (fun T h => h q r (Nat.le_refl _) h1 h2) (fun m K h q r a1 a2 a3 => h _ _ fun T h => h q r a1 a2 a3) fun n K hK q r hn h1 h2 => ?_
  simp only [ay,di,dk,dl,ad,az,b0,ba,bb,ae,bc,bd,bg,bh,bj,bk,af,bl,ag,bn,bp,br,bs,bt,ah,ai,bv,aj,bw,ab,ak,bx,bz,al,c6,am,dn,dp,dq,dr,c7,du,dw,dx,dy,dz,ao,ap,c8,c9,ce,aq,au,aa,cf,cj,ck,cm,co,cq,cu,av,cw,cx,cy,cz,aw,d8,d9,a9,a8,e9,ee,ew,f0,f8,f9,fb,fe,ff,fg,fh,fi,fj,fk,fo,fq,fs,ft,fu,fw,fx,da,fy,db,g0,ge,gf,gg,gh,gi,gj,gk,gl,gm,gn,gp,gq,gs,gt,gu,gv,gw,gx,gy,gz,i0,i4,i5,i6,i8,i9,ia,dc,ax,ie,ig,ii,de,dg,ij,ik,il,im,ip,iq,ir,iu,iv,iw,iy,j0,j3,j4,j5,j6,dh,j7,j8,j9,ja,jb]
  cases hc : decide (r < 0) with
  | true =>
    have hr := of_decide_eq_true hc
    simp only [b67,b68,ay,di,dk,dl,ad,az,b0,ba,bb,ae,bc,bd,bg,bh,bj,bk,af,bl,ag,bn,bp,br,bs,bt,ah,ai,bv,aj,bw,ab,ak,bx,bz,al,c6,am,dn,dp,dq,dr,c7,du,dw,dx,dy,dz,ao,ap,c8,c9,ce,aq,au,aa,cf,cj,ck,cm,co,cq,cu,av,cw,cx,cy,cz,aw,d8,d9,a9,a8,e9,ee,ew,f0,f8,f9,fb,fe,ff,fg,fh,fi,fj,fk,fo,fq,fs,ft,fu,fw,fx,da,fy,db,g0,ge,gf,gg,gh,gi,gj,gk,gl,gm,gn,gp,gq,gs,gt,gu,gv,gw,gx,gy,gz,i0,i4,i5,i6,i8,i9,ia,dc,ax,ie,ig,ii,de,dg,ij,ik,il,im,ip,iq,ir,iu,iv,iw,iy,j0,j3,j4,j5,j6,dh,j7,j8,j9,ja,jb,qw,qx,qy,qz,r7,r8,r9,rd]
    refine hK (-(r + (b : Int))).toNat (by lia) (q - 1) (r + b) (Nat.le_refl _) ?_ (by lia)
    rw [Int.sub_mul, Int.one_mul]; lia
  | false =>
    have hr := of_decide_eq_false hc
    obtain ⟨e1, e2⟩ := ediv_unique h1 (by lia) h2
    simp only [b69,ay,di,dk,dl,ad,az,b0,ba,bb,ae,bc,bd,bg,bh,bj,bk,af,bl,ag,bn,bp,br,bs,bt,ah,ai,bv,aj,bw,ab,ak,bx,bz,al,c6,am,dn,dp,dq,dr,c7,du,dw,dx,dy,dz,ao,ap,c8,c9,ce,aq,au,aa,cf,cj,ck,cm,co,cq,cu,av,cw,cx,cy,cz,aw,d8,d9,a9,a8,e9,ee,ew,f0,f8,f9,fb,fe,ff,fg,fh,fi,fj,fk,fo,fq,fs,ft,fu,fw,fx,da,fy,db,g0,ge,gf,gg,gh,gi,gj,gk,gl,gm,gn,gp,gq,gs,gt,gu,gv,gw,gx,gy,gz,i0,i4,i5,i6,i8,i9,ia,dc,ax,ie,ig,ii,de,dg,ij,ik,il,im,ip,iq,ir,iu,iv,iw,iy,j0,j3,j4,j5,j6,dh,j7,j8,j9,ja,jb]
    refine ⟨by simp, _, .refl _, ?_⟩
    rw [← e1, ← e2]
    exact hq
theorem c_d3 (S : SetOk G) {d a12 a3 b b1 b2 n : Nat} {H : MH} {Q : MV → MH → Prop} (hn : n ≤ 2 ^ 20) (hn1 : 1 ≤ n) (eb : b = b1 * 2 ^ n + b2) (hb1 : 2 ^ (n - 1) ≤ b1) (hb1' : b1 < 2 ^ n) (hb2 : b2 < 2 ^ n) (h3 : a3 < 2 ^ n) (h12 : a12 < b)
    (P2 : ∀ (a : Nat) (Q : MV → MH → Prop), a < b1 * 2 ^ n → Q (.tup [.int (a / b1 : Nat), .int (a % b1 : Nat)]) H → Calls G d (.fn 39) [.int a, .int b1, .int n] [] H Q)
    (hq : Q (.tup [.int ((a12 * 2 ^ n + a3) / b : Nat), .int ((a12 * 2 ^ n + a3) % b : Nat)]) H) :
    Calls G (d + 1) (.fn 46) [.int a12, .int a3, .int b, .int b1, .int b2, .int n] [] H Q := by
  refine calls_fn S.st S.f__div3n2n.fn (bd__div3n2n S _ _ _ _ _ _) ?_
  have e : l0 lp [("a12", .int a12), ("a3", .int a3), ("b", .int b), ("b1", .int b1), ("b2", .int b2), ("n", .int n)] = [some (.int a12), some (.int a3), some (.int b), some (.int b1), some (.int b2), some (.int n), none, none] := rfl
  have hb0 : 0 < b1 := Nat.lt_of_lt_of_le (Nat.pow_pos (by decide)) hb1
  have hbp : 0 < b := by have := Nat.mul_pos hb0 (Nat.pow_pos (n := n) (show 0 < 2 by decide)); lia
  have h2n : 0 < 2 ^ n := Nat.pow_pos (by decide)
  have hb22 : b < 2 ^ (2 * n) := by
    rw [Nat.two_mul, Nat.pow_add, eb]
    have : (b1 + 1) * 2 ^ n ≤ 2 ^ n * 2 ^ n := Nat.mul_le_mul_right _ hb1'
    rw [Nat.add_mul, Nat.one_mul] at this; lia
  have mid : ∀ (q r : Nat), q < 2 ^ n → r < 2 ^ (n + 1) → q * b1 + r = a12 → a12 * 2 ^ n + a3 < (q + 1) * b →
      exs G d b65 lp [some (.int a12), some (.int a3), some (.int b), some (.int b1), some (.int b2), some (.int n), some (.int q), some (.int r)] H (fun _ H' => Q .none H') Q := fun q r hq1 hr1 e1 e2 => by
    simp only [b65,ay,di,dk,dl,ad,az,b0,ba,bb,ae,bc,bd,bg,bh,bj,bk,af,bl,ag,bn,bp,br,bs,bt,ah,ai,bv,aj,bw,ab,ak,bx,bz,al,c6,am,dn,dp,dq,dr,c7,du,dw,dx,dy,dz,ao,ap,c8,c9,ce,aq,au,aa,cf,cj,ck,cm,co,cq,cu,av,cw,cx,cy,cz,aw,d8,d9,a9,a8,e9,ee,ew,f0,f8,f9,fb,fe,ff,fg,fh,fi,fj,fk,fo,fq,fs,ft,fu,fw,fx,da,fy,db,g0,ge,gf,gg,gh,gi,gj,gk,gl,gm,gn,gp,gq,gs,gt,gu,gv,gw,gx,gy,gz,i0,i4,i5,i6,i8,i9,ia,dc,ax,ie,ig,ii,de,dg,ij,ik,il,im,ip,iq,ir,iu,iv,iw,iy,j0,j3,j4,j5,j6,dh,j7,j8,j9,ja,jb,qw,qx,qy,qz,r7,r8,r9,rd]
    refine ⟨⟨by lia, ?_⟩, ?_, ?_⟩
    · have := bits_le hr1; lia
    · have h1 := bits_le hq1; have h2 := bits_le hb2; lia
    · rw [toNat_nat, shl_nat, or_shl _ _ _ h3]
      refine d3_tail S (A := a12 * 2 ^ n + a3) hbp ?_ ?_ hq
      · rw [← e1, eb]; push_cast; rw [Int.mul_add, Int.add_mul, Int.mul_assoc]; lia
      · have : ((q + 1) * b : Nat) = q * b + b := by rw [Nat.add_mul, Nat.one_mul]
        have e3 : a12 * 2 ^ n = q * b1 * 2 ^ n + r * 2 ^ n := by rw [← e1, Nat.add_mul]
        have e4 : q * b = q * b1 * 2 ^ n + q * b2 := by rw [eb, Nat.mul_add, Nat.mul_assoc]
        have : ((r * 2 ^ n + a3 : Nat) : Int) - ((q * b2 : Nat) : Int) < (b : Int) := by lia
        push_cast at this ⊢
        exact this
  rw [e, ox, b61]
  simp only [ay,di,dk,dl,ad,az,b0,ba,bb,ae,bc,bd,bg,bh,bj,bk,af,bl,ag,bn,bp,br,bs,bt,ah,ai,bv,aj,bw,ab,ak,bx,bz,al,c6,am,dn,dp,dq,dr,c7,du,dw,dx,dy,dz,ao,ap,c8,c9,ce,aq,au,aa,cf,cj,ck,cm,co,cq,cu,av,cw,cx,cy,cz,aw,d8,d9,a9,a8,e9,ee,ew,f0,f8,f9,fb,fe,ff,fg,fh,fi,fj,fk,fo,fq,fs,ft,fu,fw,fx,da,fy,db,g0,ge,gf,gg,gh,gi,gj,gk,gl,gm,gn,gp,gq,gs,gt,gu,gv,gw,gx,gy,gz,i0,i4,i5,i6,i8,i9,ia,dc,ax,ie,ig,ii,de,dg,ij,ik,il,im,ip,iq,ir,iu,iv,iw,iy,j0,j3,j4,j5,j6,dh,j7,j8,j9,ja,jb]
  refine ⟨by lia, ?_⟩
  rw [toNat_nat, shr_nat]
  have h12' : a12 / 2 ^ n ≤ b1 := by
    rw [← Nat.lt_succ_iff]
    refine Nat.div_lt_of_lt_mul ?_
    rw [Nat.mul_comm, Nat.succ_mul]; lia
  have hdm := Nat.div_add_mod a12 (2 ^ n)
  have hml := Nat.mod_lt a12 h2n
  cases hc : (((a12 / 2 ^ n : Nat) : Int) == (b1 : Int)) with
  | true =>
    have he : a12 / 2 ^ n = b1 := by have := beq_iff_eq.mp hc; lia
    rw [he] at hdm
    simp only [b62,ay,di,dk,dl,ad,az,b0,ba,bb,ae,bc,bd,bg,bh,bj,bk,af,bl,ag,bn,bp,br,bs,bt,ah,ai,bv,aj,bw,ab,ak,bx,bz,al,c6,am,dn,dp,dq,dr,c7,du,dw,dx,dy,dz,ao,ap,c8,c9,ce,aq,au,aa,cf,cj,ck,cm,co,cq,cu,av,cw,cx,cy,cz,aw,d8,d9,a9,a8,e9,ee,ew,f0,f8,f9,fb,fe,ff,fg,fh,fi,fj,fk,fo,fq,fs,ft,fu,fw,fx,da,fy,db,g0,ge,gf,gg,gh,gi,gj,gk,gl,gm,gn,gp,gq,gs,gt,gu,gv,gw,gx,gy,gz,i0,i4,i5,i6,i8,i9,ia,dc,ax,ie,ig,ii,de,dg,ij,ik,il,im,ip,iq,ir,iu,iv,iw,iy,j0,j3,j4,j5,j6,dh,j7,j8,j9,ja,jb]
    refine ⟨⟨_, _, rfl, rfl, by decide⟩, ⟨by lia, by have : Builtin.Int.intBits (1 : Int) = 1 := rfl; lia⟩, ⟨by lia, by have := bits_le hb1'; lia⟩, ?_⟩
    have eq1 : (1 : Int) * 2 ^ ((n : Int)).toNat - 1 = ((2 ^ n - 1 : Nat) : Int) := by rw [toNat_nat, Int.one_mul, pow_cast]; lia
    have er1 : (a12 : Int) - (b1 : Int) * 2 ^ ((n : Int)).toNat + (b1 : Int) = ((a12 % 2 ^ n + b1 : Nat) : Int) := by
      rw [toNat_nat, shl_nat, ← hdm, Nat.mul_comm];
      have : (2 ^ n * b1 + a12 % 2 ^ n) % 2 ^ n = a12 % 2 ^ n := by rw [Nat.mul_add_mod, Nat.mod_mod]
      rw [Nat.mul_comm b1, this]; lia
    rw [eq1, er1]
    refine mid _ _ (by lia) (by rw [Nat.pow_succ]; lia) ?_ ?_
    · have : (2 ^ n - 1) * b1 + b1 = 2 ^ n * b1 := by
        rw [← Nat.succ_mul]; congr 1; lia
      lia
    · have h5 : (a12 + 1) * 2 ^ n ≤ b * 2 ^ n := Nat.mul_le_mul_right _ h12
      have h6 : 2 ^ n - 1 + 1 = 2 ^ n := by lia
      rw [h6, Nat.mul_comm (2 ^ n) b]
      rw [Nat.add_mul, Nat.one_mul] at h5; lia
  | false =>
    have he : a12 / 2 ^ n ≠ b1 := fun q => by rw [q] at hc; simp at hc
    have hlt : a12 < b1 * 2 ^ n := by
      have h7 : (a12 / 2 ^ n + 1) * 2 ^ n ≤ b1 * 2 ^ n := Nat.mul_le_mul_right _ (by lia)
      rw [Nat.add_mul, Nat.one_mul, Nat.mul_comm] at h7; lia
    simp only [b64,ay,di,dk,dl,ad,az,b0,ba,bb,ae,bc,bd,bg,bh,bj,bk,af,bl,ag,bn,bp,br,bs,bt,ah,ai,bv,aj,bw,ab,ak,bx,bz,al,c6,am,dn,dp,dq,dr,c7,du,dw,dx,dy,dz,ao,ap,c8,c9,ce,aq,au,aa,cf,cj,ck,cm,co,cq,cu,av,cw,cx,cy,cz,aw,d8,d9,a9,a8,e9,ee,ew,f0,f8,f9,fb,fe,ff,fg,fh,fi,fj,fk,fo,fq,fs,ft,fu,fw,fx,da,fy,db,g0,ge,gf,gg,gh,gi,gj,gk,gl,gm,gn,gp,gq,gs,gt,gu,gv,gw,gx,gy,gz,i0,i4,i5,i6,i8,i9,ia,dc,ax,ie,ig,ii,de,dg,ij,ik,il,im,ip,iq,ir,iu,iv,iw,iy,j0,j3,j4,j5,j6,dh,j7,j8,j9,ja,jb]
    refine ⟨⟨S.f__div2n1n.glob.1, S.f__div2n1n.glob.2⟩, P2 a12 _ hlt ?_⟩
    simp only [qw, qx, qy, qz, r7, r8, r9, rd, true_and, List.set_cons_succ, List.set_cons_zero]
    have hm := Nat.mod_lt a12 hb0
    have hd := Nat.div_add_mod a12 b1
    refine mid _ _ (Nat.div_lt_of_lt_mul hlt) (by rw [Nat.pow_succ]; lia) (by rw [Nat.mul_comm]; exact hd) ?_
    have h8 : (a12 + 1) * 2 ^ n ≤ ((a12 / b1 + 1) * b1) * 2 ^ n := Nat.mul_le_mul_right _ (by rw [Nat.add_mul, Nat.one_mul, Nat.mul_comm]; lia)
    have h9 : (a12 / b1 + 1) * b = (a12 / b1 + 1) * b1 * 2 ^ n + (a12 / b1 + 1) * b2 := by rw [eb, Nat.mul_add, Nat.mul_assoc]
    rw [Nat.add_mul, Nat.one_mul] at h8
    lia
end Mine
namespace Mine
variable {G : Stat}
structure D2 (a b n : Nat) : Prop where
  lo : 2 ^ (n - 1) ≤ b
  hi : b < 2 ^ n
  n1 : 1 ≤ n
  n2 : n ≤ 2 ^ 19
  a : a < b * 2 ^ n
theorem d2_tail (S : SetOk G) {d a b h p : Nat} {H : MH} {N : Loc → MH → Prop} {Q : MV → MH → Prop} (hh : 1 ≤ h) (hh2 : h ≤ 2 ^ 19) (hlo : 2 ^ (2 * h - 1) ≤ b) (hhi : b < 2 ^ (2 * h)) (ha : a < b * 2 ^ (2 * h)) (hp : p ≤ 1)
    (P3 : ∀ (a12 a3 : Nat) (Q : MV → MH → Prop), a3 < 2 ^ h → a12 < b → Q (.tup [.int ((a12 * 2 ^ h + a3) / b : Nat), .int ((a12 * 2 ^ h + a3) % b : Nat)]) H →
      Calls G d (.fn 46) [.int a12, .int a3, .int b, .int (b / 2 ^ h : Nat), .int (b % 2 ^ h : Nat), .int h] [] H Q)
    (hq : Q (.tup [.int (a / b : Nat), .int (a % b / 2 ^ p : Nat)]) H) :
    exs G d b52 kj [some (.int a), some (.int b), some (.int (2 * h : Nat)), some (.int p), none, none, none, none, none, none, none] H N Q := by
  have hb0 : 0 < b := Nat.lt_of_lt_of_le (Nat.pow_pos (by decide)) hlo
  have h2h : 0 < 2 ^ h := Nat.pow_pos (by decide)
  have e2 : 2 ^ (2 * h) = 2 ^ h * 2 ^ h := by rw [Nat.two_mul, Nat.pow_add]
  have eh : ((2 * h : Nat) : Int) / 2 ^ (1 : Int).toNat = (h : Int) := by show ((2 * h : Nat) : Int) / 2 ^ 1 = _; lia
  have em : (1 : Int) * 2 ^ ((h : Int)).toNat - 1 = ((2 ^ h - 1 : Nat) : Int) := by rw [toNat_nat, Int.one_mul, pow_cast]; lia
  have dm1 := Nat.div_add_mod a (2 ^ h)
  have A1 : a / 2 ^ (2 * h) * 2 ^ h + a / 2 ^ h % 2 ^ h = a / 2 ^ h := by
    rw [e2, ← Nat.div_div_eq_div_mul, Nat.mul_comm]; exact Nat.div_add_mod _ _
  have hA12 : a / 2 ^ (2 * h) < b := Nat.div_lt_of_lt_mul (by rw [Nat.mul_comm]; exact ha)
  have r1 := Nat.mod_lt (a / 2 ^ h) hb0
  have q1 := Nat.div_add_mod (a / 2 ^ h) b
  have m1 := Nat.mod_lt a h2h
  have r2 := Nat.mod_lt (a / 2 ^ h % b * 2 ^ h + a % 2 ^ h) hb0
  have q2 := Nat.div_add_mod (a / 2 ^ h % b * 2 ^ h + a % 2 ^ h) b
  have hq2 : (a / 2 ^ h % b * 2 ^ h + a % 2 ^ h) / b < 2 ^ h := by
    refine Nat.div_lt_of_lt_mul ?_
    have : (a / 2 ^ h % b + 1) * 2 ^ h ≤ b * 2 ^ h := Nat.mul_le_mul_right _ r1
    rw [Nat.add_mul, Nat.one_mul] at this; lia
  have hq1 : a / 2 ^ h / b < 2 ^ h := by
    refine Nat.div_lt_of_lt_mul (Nat.div_lt_of_lt_mul ?_)
    rw [← Nat.mul_assoc, Nat.mul_comm (2 ^ h) b, Nat.mul_assoc, ← e2]; exact ha
  have key : a = (a / 2 ^ h / b * 2 ^ h + (a / 2 ^ h % b * 2 ^ h + a % 2 ^ h) / b) * b + (a / 2 ^ h % b * 2 ^ h + a % 2 ^ h) % b := by
    have k1 : 2 ^ h * (a / 2 ^ h) = 2 ^ h * (b * (a / 2 ^ h / b) + a / 2 ^ h % b) := by rw [q1]
    have k2 : a / 2 ^ h / b * 2 ^ h * b = 2 ^ h * (b * (a / 2 ^ h / b)) := by rw [Nat.mul_comm (a / 2 ^ h / b), Nat.mul_assoc, Nat.mul_comm (a / 2 ^ h / b)]
    have k3 : 2 ^ h * (a / 2 ^ h % b) = a / 2 ^ h % b * 2 ^ h := Nat.mul_comm _ _
    rw [Nat.mul_add] at k1
    rw [Nat.add_mul, k2, Nat.mul_comm ((a / 2 ^ h % b * 2 ^ h + a % 2 ^ h) / b)]
    lia
  have ke : a / b = a / 2 ^ h / b * 2 ^ h + (a / 2 ^ h % b * 2 ^ h + a % 2 ^ h) / b ∧ a % b = (a / 2 ^ h % b * 2 ^ h + a % 2 ^ h) % b := by
    refine (Nat.div_mod_unique hb0).mpr ⟨?_, r2⟩
    rw [Nat.mul_comm b, Nat.add_comm]; exact key.symm
  rw [b52]
  simp only [b53,b54,ay,di,dk,dl,ad,az,b0,ba,bb,ae,bc,bd,bg,bh,bj,bk,af,bl,ag,bn,bp,br,bs,bt,ah,ai,bv,aj,bw,ab,ak,bx,bz,al,c6,am,dn,dp,dq,dr,c7,du,dw,dx,dy,dz,ao,ap,c8,c9,ce,aq,au,aa,cf,cj,ck,cm,co,cq,cu,av,cw,cx,cy,cz,aw,d8,d9,a9,a8,e9,ee,ew,f0,f8,f9,fb,fe,ff,fg,fh,fi,fj,fk,fo,fq,fs,ft,fu,fw,fx,da,fy,db,g0,ge,gf,gg,gh,gi,gj,gk,gl,gm,gn,gp,gq,gs,gt,gu,gv,gw,gx,gy,gz,i0,i4,i5,i6,i8,i9,ia,dc,ax,ie,ig,ii,de,dg,ij,ik,il,im,ip,iq,ir,iu,iv,iw,iy,j0,j3,j4,j5,j6,dh,j7,j8,j9,ja,jb,nx,ny,nz,o0,o3,o4,o5,o6,o7,o8,o9,eh]
  refine ⟨by lia, ⟨by lia, by have : Builtin.Int.intBits (1 : Int) = 1 := rfl; lia⟩, ⟨_, _, rfl, rfl, by decide⟩, by lia, ?_⟩
  rw [em, and_mask, toNat_nat, shr_nat]
  simp only [b55,ay,di,dk,dl,ad,az,b0,ba,bb,ae,bc,bd,bg,bh,bj,bk,af,bl,ag,bn,bp,br,bs,bt,ah,ai,bv,aj,bw,ab,ak,bx,bz,al,c6,am,dn,dp,dq,dr,c7,du,dw,dx,dy,dz,ao,ap,c8,c9,ce,aq,au,aa,cf,cj,ck,cm,co,cq,cu,av,cw,cx,cy,cz,aw,d8,d9,a9,a8,e9,ee,ew,f0,f8,f9,fb,fe,ff,fg,fh,fi,fj,fk,fo,fq,fs,ft,fu,fw,fx,da,fy,db,g0,ge,gf,gg,gh,gi,gj,gk,gl,gm,gn,gp,gq,gs,gt,gu,gv,gw,gx,gy,gz,i0,i4,i5,i6,i8,i9,ia,dc,ax,ie,ig,ii,de,dg,ij,ik,il,im,ip,iq,ir,iu,iv,iw,iy,j0,j3,j4,j5,j6,dh,j7,j8,j9,ja,jb]
  refine ⟨⟨S.f__div3n2n.glob.1, S.f__div3n2n.glob.2⟩, by lia, by lia, ?_⟩
  rw [toNat_nat, toNat_nat, shr_nat, shr_nat, and_mask]
  refine P3 _ _ _ (Nat.mod_lt _ h2h) hA12 ?_
  rw [A1]
  simp only [nx, ny, nz, o0, o3, o4, o5, o6, o7, o8, o9, true_and, List.set_cons_succ, List.set_cons_zero]
  simp only [b56,ay,di,dk,dl,ad,az,b0,ba,bb,ae,bc,bd,bg,bh,bj,bk,af,bl,ag,bn,bp,br,bs,bt,ah,ai,bv,aj,bw,ab,ak,bx,bz,al,c6,am,dn,dp,dq,dr,c7,du,dw,dx,dy,dz,ao,ap,c8,c9,ce,aq,au,aa,cf,cj,ck,cm,co,cq,cu,av,cw,cx,cy,cz,aw,d8,d9,a9,a8,e9,ee,ew,f0,f8,f9,fb,fe,ff,fg,fh,fi,fj,fk,fo,fq,fs,ft,fu,fw,fx,da,fy,db,g0,ge,gf,gg,gh,gi,gj,gk,gl,gm,gn,gp,gq,gs,gt,gu,gv,gw,gx,gy,gz,i0,i4,i5,i6,i8,i9,ia,dc,ax,ie,ig,ii,de,dg,ij,ik,il,im,ip,iq,ir,iu,iv,iw,iy,j0,j3,j4,j5,j6,dh,j7,j8,j9,ja,jb]
  refine ⟨⟨S.f__div3n2n.glob.1, S.f__div3n2n.glob.2⟩, ?_⟩
  rw [and_mask]
  refine P3 _ _ _ m1 r1 ?_
  simp only [nx, ny, nz, o0, o3, o4, o5, o6, o7, o8, o9, true_and, List.set_cons_succ, List.set_cons_zero]
  simp only [b57,ay,di,dk,dl,ad,az,b0,ba,bb,ae,bc,bd,bg,bh,bj,bk,af,bl,ag,bn,bp,br,bs,bt,ah,ai,bv,aj,bw,ab,ak,bx,bz,al,c6,am,dn,dp,dq,dr,c7,du,dw,dx,dy,dz,ao,ap,c8,c9,ce,aq,au,aa,cf,cj,ck,cm,co,cq,cu,av,cw,cx,cy,cz,aw,d8,d9,a9,a8,e9,ee,ew,f0,f8,f9,fb,fe,ff,fg,fh,fi,fj,fk,fo,fq,fs,ft,fu,fw,fx,da,fy,db,g0,ge,gf,gg,gh,gi,gj,gk,gl,gm,gn,gp,gq,gs,gt,gu,gv,gw,gx,gy,gz,i0,i4,i5,i6,i8,i9,ia,dc,ax,ie,ig,ii,de,dg,ij,ik,il,im,ip,iq,ir,iu,iv,iw,iy,j0,j3,j4,j5,j6,dh,j7,j8,j9,ja,jb]
  rw [ke.1, ke.2] at hq
  have bq : Builtin.Int.intBits ((a / 2 ^ h / b : Nat) : Int) ≤ h := bits_le hq1
  have hcp : p = 0 ∨ p = 1 := by lia
  rcases hcp with rfl | rfl
  · simp only [b59,ay,di,dk,dl,ad,az,b0,ba,bb,ae,bc,bd,bg,bh,bj,bk,af,bl,ag,bn,bp,br,bs,bt,ah,ai,bv,aj,bw,ab,ak,bx,bz,al,c6,am,dn,dp,dq,dr,c7,du,dw,dx,dy,dz,ao,ap,c8,c9,ce,aq,au,aa,cf,cj,ck,cm,co,cq,cu,av,cw,cx,cy,cz,aw,d8,d9,a9,a8,e9,ee,ew,f0,f8,f9,fb,fe,ff,fg,fh,fi,fj,fk,fo,fq,fs,ft,fu,fw,fx,da,fy,db,g0,ge,gf,gg,gh,gi,gj,gk,gl,gm,gn,gp,gq,gs,gt,gu,gv,gw,gx,gy,gz,i0,i4,i5,i6,i8,i9,ia,dc,ax,ie,ig,ii,de,dg,ij,ik,il,im,ip,iq,ir,iu,iv,iw,iy,j0,j3,j4,j5,j6,dh,j7,j8,j9,ja,jb,show ((((0 : Nat) : Int) != 0) = false) from rfl]
    refine ⟨⟨by lia, by lia⟩, by simp, _, .refl _, ?_⟩
    rw [toNat_nat, shl_nat, or_shl _ _ _ hq2]
    simpa using hq
  · simp only [b58,b59,ay,di,dk,dl,ad,az,b0,ba,bb,ae,bc,bd,bg,bh,bj,bk,af,bl,ag,bn,bp,br,bs,bt,ah,ai,bv,aj,bw,ab,ak,bx,bz,al,c6,am,dn,dp,dq,dr,c7,du,dw,dx,dy,dz,ao,ap,c8,c9,ce,aq,au,aa,cf,cj,ck,cm,co,cq,cu,av,cw,cx,cy,cz,aw,d8,d9,a9,a8,e9,ee,ew,f0,f8,f9,fb,fe,ff,fg,fh,fi,fj,fk,fo,fq,fs,ft,fu,fw,fx,da,fy,db,g0,ge,gf,gg,gh,gi,gj,gk,gl,gm,gn,gp,gq,gs,gt,gu,gv,gw,gx,gy,gz,i0,i4,i5,i6,i8,i9,ia,dc,ax,ie,ig,ii,de,dg,ij,ik,il,im,ip,iq,ir,iu,iv,iw,iy,j0,j3,j4,j5,j6,dh,j7,j8,j9,ja,jb,nx,ny,nz,o0,o3,o4,o5,o6,o7,o8,o9,show ((((1 : Nat) : Int) != 0) = true) from rfl]
    refine ⟨by decide, ⟨by lia, by lia⟩, by simp, _, .refl _, ?_⟩
    rw [toNat_nat, shl_nat, or_shl _ _ _ hq2, show (1 : Int).toNat = 1 from rfl, shr_nat]
    exact hq
theorem c_d2 (S : SetOk G) {H : MH} : ∀ (d a b n : Nat) (Q : MV → MH → Prop), D2 a b n → n ≤ 4000 * 2 ^ d → Q (.tup [.int (a / b : Nat), .int (a % b : Nat)]) H → Calls G (2 * d + 1) (.fn 39) [.int a, .int b, .int n] [] H Q := by
  intro d
  induction d with
  | zero =>
    intro a b n Q D hn hq
    refine calls_fn S.st S.f__div2n1n.fn (bd__div2n1n S _ _ _) ?_
    have e : l0 kj [("a", .int a), ("b", .int b), ("n", .int n)] = [some (.int a), some (.int b), some (.int n), none, none, none, none, none, none, none, none] := rfl
    have ha : a < 2 ^ (n + n) := Nat.lt_trans D.a (by rw [Nat.pow_add]; exact Nat.mul_lt_mul_of_pos_right D.hi (Nat.pow_pos (by decide)))
    have hc : decide ((Builtin.Int.intBits (a : Int) : Int) - (n : Int) ≤ 4000) = true := decide_eq_true (by have := bits_le ha; lia)
    rw [e, ot, b45]
    simp only [b46,ay,di,dk,dl,ad,az,b0,ba,bb,ae,bc,bd,bg,bh,bj,bk,af,bl,ag,bn,bp,br,bs,bt,ah,ai,bv,aj,bw,ab,ak,bx,bz,al,c6,am,dn,dp,dq,dr,c7,du,dw,dx,dy,dz,ao,ap,c8,c9,ce,aq,au,aa,cf,cj,ck,cm,co,cq,cu,av,cw,cx,cy,cz,aw,d8,d9,a9,a8,e9,ee,ew,f0,f8,f9,fb,fe,ff,fg,fh,fi,fj,fk,fo,fq,fs,ft,fu,fw,fx,da,fy,db,g0,ge,gf,gg,gh,gi,gj,gk,gl,gm,gn,gp,gq,gs,gt,gu,gv,gw,gx,gy,gz,i0,i4,i5,i6,i8,i9,ia,dc,ax,ie,ig,ii,de,dg,ij,ik,il,im,ip,iq,ir,iu,iv,iw,iy,j0,j3,j4,j5,j6,dh,j7,j8,j9,ja,jb,gc_i S.div_limit,hc]
    have hb0 : (b : Int) ≠ 0 := by have := Nat.lt_of_lt_of_le (Nat.pow_pos (n := n - 1) (show 0 < 2 by decide)) D.lo; lia
    refine ⟨⟨hb0, no_py D.lo (Nat.lt_of_lt_of_le ha (Nat.pow_le_pow_right (by decide) (by lia)))⟩, _, .refl _, ?_⟩
    rw [fdiv_nat, fmod_nat]; exact hq
  | succ d ih =>
    intro a b n Q D hn hq
    refine calls_fn S.st S.f__div2n1n.fn (bd__div2n1n S _ _ _) ?_
    have e : l0 kj [("a", .int a), ("b", .int b), ("n", .int n)] = [some (.int a), some (.int b), some (.int n), none, none, none, none, none, none, none, none] := rfl
    have hb1 : 0 < b := Nat.lt_of_lt_of_le (Nat.pow_pos (n := n - 1) (show 0 < 2 by decide)) D.lo
    have hb0 : (b : Int) ≠ 0 := by lia
    have ha : a < 2 ^ (n + n) := Nat.lt_trans D.a (by rw [Nat.pow_add]; exact Nat.mul_lt_mul_of_pos_right D.hi (Nat.pow_pos (by decide)))
    rw [e, ot, b45]
    simp only [b46,b47,b48,ay,di,dk,dl,ad,az,b0,ba,bb,ae,bc,bd,bg,bh,bj,bk,af,bl,ag,bn,bp,br,bs,bt,ah,ai,bv,aj,bw,ab,ak,bx,bz,al,c6,am,dn,dp,dq,dr,c7,du,dw,dx,dy,dz,ao,ap,c8,c9,ce,aq,au,aa,cf,cj,ck,cm,co,cq,cu,av,cw,cx,cy,cz,aw,d8,d9,a9,a8,e9,ee,ew,f0,f8,f9,fb,fe,ff,fg,fh,fi,fj,fk,fo,fq,fs,ft,fu,fw,fx,da,fy,db,g0,ge,gf,gg,gh,gi,gj,gk,gl,gm,gn,gp,gq,gs,gt,gu,gv,gw,gx,gy,gz,i0,i4,i5,i6,i8,i9,ia,dc,ax,ie,ig,ii,de,dg,ij,ik,il,im,ip,iq,ir,iu,iv,iw,iy,j0,j3,j4,j5,j6,dh,j7,j8,j9,ja,jb,gc_i S.div_limit,bitAnd_m1,nx,ny,nz,o0,o3,o4,o5,o6,o7,o8,o9]
    cases hc : decide ((Builtin.Int.intBits (a : Int) : Int) - (n : Int) ≤ 4000) with
    | true =>
      have := of_decide_eq_true hc
      refine ⟨⟨hb0, no_py D.lo (bits_le_of (by lia))⟩, _, .refl _, ?_⟩
      rw [fdiv_nat, fmod_nat]; exact hq
    | false =>
      have hn4 : 4000 < n := by have h1 := of_decide_eq_false hc; have h2 := bits_le ha; lia
      have P3 : ∀ (b h : Nat), 1 ≤ h → h ≤ 4000 * 2 ^ d → h ≤ 2 ^ 19 → 2 ^ (2 * h - 1) ≤ b → b < 2 ^ (2 * h) → ∀ (a12 a3 : Nat) (Q : MV → MH → Prop), a3 < 2 ^ h → a12 < b → Q (.tup [.int ((a12 * 2 ^ h + a3) / b : Nat), .int ((a12 * 2 ^ h + a3) % b : Nat)]) H →
          Calls G (2 * d + 1 + 1) (.fn 46) [.int a12, .int a3, .int b, .int (b / 2 ^ h : Nat), .int (b % 2 ^ h : Nat), .int h] [] H Q := by
        intro b h g1 g2 g3 g4 g5 a12 a3 Q g6 g7 hq
        have h2h : 0 < 2 ^ h := Nat.pow_pos (by decide)
        have e2 : 2 ^ (2 * h) = 2 ^ h * 2 ^ h := by rw [Nat.two_mul, Nat.pow_add]
        have e3 : 2 ^ (2 * h - 1) = 2 ^ (h - 1) * 2 ^ h := by rw [← Nat.pow_add]; congr 1; lia
        have u1 : 2 ^ (h - 1) ≤ b / 2 ^ h := by rw [Nat.le_div_iff_mul_le h2h, ← e3]; exact g4
        have u2 : b / 2 ^ h < 2 ^ h := Nat.div_lt_of_lt_mul (by rw [← e2]; exact g5)
        refine c_d3 S (by lia) g1 (by rw [Nat.mul_comm]; exact (Nat.div_add_mod _ _).symm) u1 u2 (Nat.mod_lt _ h2h) g6 g7 (fun a Q ha hq => ?_) hq
        exact ih a _ h Q ⟨u1, u2, g1, g3, ha⟩ g2 hq
      have hp2 := Nat.mod_two_eq_zero_or_one n
      rw [Nat.pow_succ] at hn
      have en : ((n : Int) % 2) = ((n % 2 : Nat) : Int) := rfl
      rw [en]
      rcases hp2 with hp | hp
      · rw [hp]
        have hnh : n = 2 * (n / 2) := by lia
        simp only [show ((((0 : Nat) : Int) != 0) = false) from rfl, a9]
        have g := d2_tail (N := fun _ H' => Q .none H') (d := 2 * d + 1 + 1) S (a := a) (b := b) (h := n / 2) (p := 0) (H := H) (Q := Q) (by lia) (by have := D.n2; lia) (by rw [← hnh]; exact D.lo) (by rw [← hnh]; exact D.hi) (by rw [← hnh]; exact D.a) (by lia)
          (P3 b (n / 2) (by lia) (by lia) (by have := D.n2; lia) (by rw [← hnh]; exact D.lo) (by rw [← hnh]; exact D.hi)) (by simpa using hq)
        rw [← hnh] at g
        exact g
      · rw [hp]
        have hnh : n + 1 = 2 * ((n + 1) / 2) := by lia
        have hn1 : n - 1 + 1 = n := by lia
        have hlo : 2 ^ (n + 1 - 1) ≤ b * 2 ^ 1 := by
          have := Nat.mul_le_mul_right 2 D.lo
          rw [← Nat.pow_succ, Nat.succ_eq_add_one, hn1] at this
          simpa using this
        have hhi : b * 2 ^ 1 < 2 ^ (n + 1) := by rw [Nat.pow_succ 2 n]; have := D.hi; lia
        have hab : a * 2 ^ 1 < b * 2 ^ 1 * 2 ^ (n + 1) := by
          have h1 := D.a
          have h2 : b * 2 ^ 1 * 2 ^ (n + 1) = b * 2 ^ n * 2 * 2 := by rw [Nat.pow_succ 2 n, ← Nat.mul_assoc, Nat.mul_assoc b, Nat.mul_comm (2 ^ 1), ← Nat.mul_assoc]
          lia
        simp only [show ((((1 : Nat) : Int) != 0) = true) from rfl,b49,b50,b51,ay,di,dk,dl,ad,az,b0,ba,bb,ae,bc,bd,bg,bh,bj,bk,af,bl,ag,bn,bp,br,bs,bt,ah,ai,bv,aj,bw,ab,ak,bx,bz,al,c6,am,dn,dp,dq,dr,c7,du,dw,dx,dy,dz,ao,ap,c8,c9,ce,aq,au,aa,cf,cj,ck,cm,co,cq,cu,av,cw,cx,cy,cz,aw,d8,d9,a9,a8,e9,ee,ew,f0,f8,f9,fb,fe,ff,fg,fh,fi,fj,fk,fo,fq,fs,ft,fu,fw,fx,da,fy,db,g0,ge,gf,gg,gh,gi,gj,gk,gl,gm,gn,gp,gq,gs,gt,gu,gv,gw,gx,gy,gz,i0,i4,i5,i6,i8,i9,ia,dc,ax,ie,ig,ii,de,dg,ij,ik,il,im,ip,iq,ir,iu,iv,iw,iy,j0,j3,j4,j5,j6,dh,j7,j8,j9,ja,jb,nx,ny,nz,o0,o3,o4,o5,o6,o7,o8,o9]
        refine ⟨⟨by decide, ?_⟩, ⟨by decide, ?_⟩, ?_⟩
        · have := bits_le ha; have := D.n2; lia
        · have := bits_le D.hi; have := D.n2; lia
        · rw [show (1 : Int).toNat = 1 from rfl, shl_nat, shl_nat]
          have g := d2_tail (N := fun _ H' => Q .none H') (d := 2 * d + 1 + 1) S (a := a * 2 ^ 1) (b := b * 2 ^ 1) (h := (n + 1) / 2) (p := 1) (H := H) (Q := Q) (by lia) (by have := D.n2; lia) (by rw [← hnh]; exact hlo) (by rw [← hnh]; exact hhi) (by rw [← hnh]; exact hab) (by lia)
            (P3 (b * 2 ^ 1) ((n + 1) / 2) (by lia) (by lia) (by have := D.n2; lia) (by rw [← hnh]; exact hlo) (by rw [← hnh]; exact hhi)) (by
              rw [Nat.mul_div_mul_right _ _ (by decide), Nat.mul_mod_mul_right, Nat.mul_div_cancel _ (by decide)]; exact hq)
          rw [← hnh] at g
          exact g
end Mine
namespace Mine
variable {G : Stat}
theorem Calls.up {d d' : Nat} {f : FV} {args : List MV} {kw : List (Str × MV)} {H : MH} {Q : MV → MH → Prop} (h : Calls G d f args kw H Q) (hd : d ≤ d') : Calls G d' f args kw H Q :=
  fun A s Z fv vs kvs rm => h A s Z fv vs kvs ⟨rm.hd, by have := rm.depth; lia, by have := rm.units; lia⟩
theorem forGo_ch {α : Type} {f : MV → Loc → MH → (Loc → MH → Prop) → Prop} {N : Loc → MH → Prop} {g : α → MV} (S : Nat → (Loc → MH → Prop) → Prop) {ys : List α} {l : Loc} {H : MH}
    (h0 : ∀ T, S 0 T → T l H) (hN : S ys.length N) (hf : ∀ (k : Nat) (y : α), ys[k]? = some y → ∀ N', S (k + 1) N' → S k fun l H => f (g y) l H N') : forGo f N (ys.map g) l H := by
  have go : ∀ n k : Nat, k + n = ys.length → S k fun l H => forGo f N ((ys.drop k).map g) l H := by
    intro n
    induction n with
    | zero => intro k hk; rw [List.drop_eq_nil_of_le (by lia)]; rw [← hk] at hN; exact hN
    | succ n ih =>
      intro k hk
      have h : k < ys.length := by lia
      rw [List.drop_eq_getElem_cons h]
      exact hf k _ (List.getElem?_eq_getElem h) _ (ih (k + 1) (by lia))
  exact h0 _ (go ys.length 0 (Nat.zero_add _))
theorem forGo_rng {f : MV → Loc → MH → (Loc → MH → Prop) → Prop} {N : Loc → MH → Prop} (S : Nat → (Loc → MH → Prop) → Prop) {n : Nat} {l : Loc} {H : MH}
    (h0 : ∀ T, S 0 T → T l H) (hN : S n N) (hf : ∀ k : Nat, k < n → ∀ N', S (k + 1) N' → S k fun l H => f (.int (k : Int)) l H N') : forGo f N ((List.range n).map fun (k : Nat) => MV.int (k : Int)) l H :=
  forGo_ch S h0 (by rw [List.length_range]; exact hN) fun k y e N' h => by
    have hk := (List.getElem?_eq_some_iff.mp e).1
    rw [List.length_range] at hk
    rw [List.getElem?_range hk] at e
    cases e
    exact hf k hk N' h
theorem div_step {V D b n : Nat} (hb : 0 < b) (hD : D < 2 ^ n) : V % b * 2 ^ n + D < b * 2 ^ n ∧ (V * 2 ^ n + D) / b = V / b * 2 ^ n + (V % b * 2 ^ n + D) / b ∧ (V * 2 ^ n + D) % b = (V % b * 2 ^ n + D) % b := by
  have r := Nat.mod_lt V hb
  have h1 : (V % b + 1) * 2 ^ n ≤ b * 2 ^ n := Nat.mul_le_mul_right _ r
  rw [Nat.add_mul, Nat.one_mul] at h1
  refine ⟨by lia, ?_⟩
  have e : V * 2 ^ n + D = b * (V / b * 2 ^ n) + (V % b * 2 ^ n + D) := by
    have := Nat.div_add_mod V b
    have h2 : V * 2 ^ n = (b * (V / b) + V % b) * 2 ^ n := by rw [this]
    rw [Nat.add_mul, Nat.mul_assoc] at h2; lia
  rw [e]
  refine ⟨?_, ?_⟩
  · rw [Nat.mul_add_div hb]
  · rw [Nat.mul_add_mod]
theorem c_dmp (S : SetOk G) {a b : Nat} {H0 : MH} {Q : MV → MH → Prop} (hb : 0 < b) (ha2 : Builtin.Int.intBits (a : Int) ≤ 2 ^ 18) (hb2 : Builtin.Int.intBits (b : Int) ≤ 2 ^ 18)
    (hq : Q (.tup [.int (a / b : Nat), .int (a % b : Nat)]) H0) : Calls G 24 (.fn 67) [.int a, .int b] [] H0 Q := by
  refine calls_fn S.st S.f__divmod_pos.fn (bd__divmod_pos S _ _) ?_
  have e : l0 lr [("a", .int a), ("b", .int b)] = [some (.int a), some (.int b), none, none, none, none, none, none, none] := rfl
  rw [e, p9, b96]
  have hbl := lt_bits b
  have hal := lt_bits a
  have hblo : 2 ^ (Builtin.Int.intBits (b : Int) - 1) ≤ b := by
    refine Nat.le_of_not_lt fun q => ?_
    have h1 := bits_le q
    have h2 : 0 < Builtin.Int.intBits (b : Int) := Nat.pos_of_ne_zero fun z => by rw [z] at hbl; simp at hbl; lia
    lia
  have hn1 : 1 ≤ Builtin.Int.intBits (b : Int) := Nat.pos_of_ne_zero fun z => by rw [z] at hbl; simp at hbl; lia
  simp only [b97,ay,di,dk,dl,ad,az,b0,ba,bb,ae,bc,bd,bg,bh,bj,bk,af,bl,ag,bn,bp,br,bs,bt,ah,ai,bv,aj,bw,ab,ak,bx,bz,al,c6,am,dn,dp,dq,dr,c7,du,dw,dx,dy,dz,ao,ap,c8,c9,ce,aq,au,aa,cf,cj,ck,cm,co,cq,cu,av,cw,cx,cy,cz,aw,d8,d9,a9,a8,e9,ee,ew,f0,f8,f9,fb,fe,ff,fg,fh,fi,fj,fk,fo,fq,fs,ft,fu,fw,fx,da,fy,db,g0,ge,gf,gg,gh,gi,gj,gk,gl,gm,gn,gp,gq,gs,gt,gu,gv,gw,gx,gy,gz,i0,i4,i5,i6,i8,i9,ia,dc,ax,ie,ig,ii,de,dg,ij,ik,il,im,ip,iq,ir,iu,iv,iw,iy,j0,j3,j4,j5,j6,dh,j7,j8,j9,ja,jb,oa,oe,og,oh,oi,oj,ol,om,oo]
  generalize hn : Builtin.Int.intBits (b : Int) = n at *
  obtain ⟨hl1, hl2⟩ := dlen_mul (a := a) hn1
  have hl3 : dlen n a ≤ n * dlen n a := Nat.le_mul_of_pos_left _ (by lia)
  refine ⟨S.f__int2digits.glob, (c_i2d S (d := 20) hn1 (by lia) (by lia) (by lia) ?_).up (by decide)⟩
  simp only [b98,b99,b100,ay,di,dk,dl,ad,az,b0,ba,bb,ae,bc,bd,bg,bh,bj,bk,af,bl,ag,bn,bp,br,bs,bt,ah,ai,bv,aj,bw,ab,ak,bx,bz,al,c6,am,dn,dp,dq,dr,c7,du,dw,dx,dy,dz,ao,ap,c8,c9,ce,aq,au,aa,cf,cj,ck,cm,co,cq,cu,av,cw,cx,cy,cz,aw,d8,d9,a9,a8,e9,ee,ew,f0,f8,f9,fb,fe,ff,fg,fh,fi,fj,fk,fo,fq,fs,ft,fu,fw,fx,da,fy,db,g0,ge,gf,gg,gh,gi,gj,gk,gl,gm,gn,gp,gq,gs,gt,gu,gv,gw,gx,gy,gz,i0,i4,i5,i6,i8,i9,ia,dc,ax,ie,ig,ii,de,dg,ij,ik,il,im,ip,iq,ir,iu,iv,iw,iy,j0,j3,j4,j5,j6,dh,j7,j8,j9,ja,jb,oa,oe,og,oh,oi,oj,ol,om,oo]
  refine ⟨by simp, fun a' ha' => ?_⟩
  have eL : (mints (digs n (dlen n a) a)).length = dlen n a := by unfold mints digs; simp
  refine ⟨by rw [eL]; lia, ?_⟩
  have hVlt : a < 2 ^ (n * dlen n a) := Nat.lt_of_lt_of_le hal (Nat.pow_le_pow_right (by decide) hl1)
  generalize hL : dlen n a = L at *
  have er : (mints (digs n L a)).reverse = ((digs n L a).reverse).map fun (x : Nat) => MV.int (x : Int) := (List.map_reverse ..).symm
  have eD : (digs n L a).reverse.length = L := by rw [List.length_reverse]; unfold digs; simp
  rw [er]
  refine forGo_ch (fun k T => ∀ (qs : List Nat) (x6 x7 : Option MV), qs.length = k → k ≤ L → (∀ q ∈ qs, q < 2 ^ n) → dval n qs.reverse = a / 2 ^ (n * (L - k)) / b →
      T [some (.int a), some (.int b), some (.int n), some (.list (mints (digs n L a))), some (.int (a / 2 ^ (n * (L - k)) % b : Nat)), some (.ref a'), x6, x7, none] ((a', mints qs) :: H0)) (fun T hT => ?_) ?_ ?_
  · have := hT [] none none rfl (Nat.zero_le _) nofun (by rw [Nat.sub_zero, Nat.div_eq_of_lt hVlt, Nat.zero_div]; rfl)
    rw [Nat.sub_zero, Nat.div_eq_of_lt hVlt, Nat.zero_mod] at this
    exact this
  · intro qs x6 x7 h1 h2 h3 h4
    rw [eD] at h1 h4 ⊢
    simp only [Nat.sub_self, Nat.mul_zero, Nat.pow_zero, Nat.div_one] at h4 ⊢
    simp only [b103,ay,di,dk,dl,ad,az,b0,ba,bb,ae,bc,bd,bg,bh,bj,bk,af,bl,ag,bn,bp,br,bs,bt,ah,ai,bv,aj,bw,ab,ak,bx,bz,al,c6,am,dn,dp,dq,dr,c7,du,dw,dx,dy,dz,ao,ap,c8,c9,ce,aq,au,aa,cf,cj,ck,cm,co,cq,cu,av,cw,cx,cy,cz,aw,d8,d9,a9,a8,e9,ee,ew,f0,f8,f9,fb,fe,ff,fg,fh,fi,fj,fk,fo,fq,fs,ft,fu,fw,fx,da,fy,db,g0,ge,gf,gg,gh,gi,gj,gk,gl,gm,gn,gp,gq,gs,gt,gu,gv,gw,gx,gy,gz,i0,i4,i5,i6,i8,i9,ia,dc,ax,ie,ig,ii,de,dg,ij,ik,il,im,ip,iq,ir,iu,iv,iw,iy,j0,j3,j4,j5,j6,dh,j7,j8,j9,ja,jb,oa,oe,og,oh,oi,oj,ol,om,oo]
    rw [wu h_look, h_set ha']
    refine ⟨by simp, ⟨by simp; lia, ?_⟩⟩
    simp only [b104,b105,ay,di,dk,dl,ad,az,b0,ba,bb,ae,bc,bd,bg,bh,bj,bk,af,bl,ag,bn,bp,br,bs,bt,ah,ai,bv,aj,bw,ab,ak,bx,bz,al,c6,am,dn,dp,dq,dr,c7,du,dw,dx,dy,dz,ao,ap,c8,c9,ce,aq,au,aa,cf,cj,ck,cm,co,cq,cu,av,cw,cx,cy,cz,aw,d8,d9,a9,a8,e9,ee,ew,f0,f8,f9,fb,fe,ff,fg,fh,fi,fj,fk,fo,fq,fs,ft,fu,fw,fx,da,fy,db,g0,ge,gf,gg,gh,gi,gj,gk,gl,gm,gn,gp,gq,gs,gt,gu,gv,gw,gx,gy,gz,i0,i4,i5,i6,i8,i9,ia,dc,ax,ie,ig,ii,de,dg,ij,ik,il,im,ip,iq,ir,iu,iv,iw,iy,j0,j3,j4,j5,j6,dh,j7,j8,j9,ja,jb,oa,oe,og,oh,oi,oj,ol,om,oo,h_look,h_del ha']
    refine ⟨S.f__digits2int.glob, ?_⟩
    have er : (mints qs).reverse = mints qs.reverse := by unfold mints; rw [List.map_reverse]
    rw [er]
    refine (c_d2i S (d := 20) (by lia) (fun q hq => h3 q (List.mem_reverse.mp hq)) (by rw [List.length_reverse, h1]; lia) (by rw [List.length_reverse, h1]; lia) (by rw [List.length_reverse, h1]; lia) ?_).up (by decide)
    rw [h4]
    exact ⟨by simp, _, .refl _, hq⟩
  · intro k x hx N' hN qs x6 x7 h1 h2 h3 h4
    have hkL : k < L := by
      have := (List.getElem?_eq_some_iff.mp hx).1
      rw [eD] at this; exact this
    have hx2 : a / 2 ^ (n * (L - k - 1)) % 2 ^ n = x := by
      have hdl : (digs n L a).length = L := by unfold digs; simp
      rw [List.getElem?_reverse (by rw [hdl]; exact hkL), hdl] at hx
      unfold digs at hx
      rw [List.getElem?_map, List.getElem?_range (by lia)] at hx
      rw [show L - k - 1 = L - 1 - k by lia]
      exact Option.some.inj hx
    subst hx2
    have hD : a / 2 ^ (n * (L - k - 1)) % 2 ^ n < 2 ^ n := Nat.mod_lt _ (Nat.pow_pos (by decide))
    have hV : a / 2 ^ (n * (L - (k + 1))) = a / 2 ^ (n * (L - k)) * 2 ^ n + a / 2 ^ (n * (L - k - 1)) % 2 ^ n := by
      have e1 : n * (L - k) = n * (L - k - 1) + n := by rw [← Nat.mul_succ]; congr 1; lia
      have e2 : L - (k + 1) = L - k - 1 := by lia
      rw [e1, e2, Nat.pow_add, ← Nat.div_div_eq_div_mul, Nat.mul_comm _ (2 ^ n)]
      exact (Nat.div_add_mod _ _).symm
    obtain ⟨s1, s2, s3⟩ := div_step (V := a / 2 ^ (n * (L - k))) hb hD
    rw [← hV] at s2 s3
    have hr := Nat.mod_lt (a / 2 ^ (n * (L - k))) hb
    generalize a / 2 ^ (n * (L - k - 1)) % 2 ^ n = D at *
    generalize a / 2 ^ (n * (L - k)) = V at *
    simp only [b101,ay,di,dk,dl,ad,az,b0,ba,bb,ae,bc,bd,bg,bh,bj,bk,af,bl,ag,bn,bp,br,bs,bt,ah,ai,bv,aj,bw,ab,ak,bx,bz,al,c6,am,dn,dp,dq,dr,c7,du,dw,dx,dy,dz,ao,ap,c8,c9,ce,aq,au,aa,cf,cj,ck,cm,co,cq,cu,av,cw,cx,cy,cz,aw,d8,d9,a9,a8,e9,ee,ew,f0,f8,f9,fb,fe,ff,fg,fh,fi,fj,fk,fo,fq,fs,ft,fu,fw,fx,da,fy,db,g0,ge,gf,gg,gh,gi,gj,gk,gl,gm,gn,gp,gq,gs,gt,gu,gv,gw,gx,gy,gz,i0,i4,i5,i6,i8,i9,ia,dc,ax,ie,ig,ii,de,dg,ij,ik,il,im,ip,iq,ir,iu,iv,iw,iy,j0,j3,j4,j5,j6,dh,j7,j8,j9,ja,jb,oa,oe,og,oh,oi,oj,ol,om,oo]
    refine ⟨S.f__div2n1n.glob, ⟨by lia, ?_⟩, ?_⟩
    · have := bits_le (Nat.lt_trans hr hbl); lia
    rw [toNat_nat, shl_nat, ← Int.natCast_add]
    refine (c_d2 S 8 _ _ _ _ ⟨hblo, hbl, hn1, by lia, s1⟩ (by lia) ?_).up (by decide)
    simp only [b102,ay,di,dk,dl,ad,az,b0,ba,bb,ae,bc,bd,bg,bh,bj,bk,af,bl,ag,bn,bp,br,bs,bt,ah,ai,bv,aj,bw,ab,ak,bx,bz,al,c6,am,dn,dp,dq,dr,c7,du,dw,dx,dy,dz,ao,ap,c8,c9,ce,aq,au,aa,cf,cj,ck,cm,co,cq,cu,av,cw,cx,cy,cz,aw,d8,d9,a9,a8,e9,ee,ew,f0,f8,f9,fb,fe,ff,fg,fh,fi,fj,fk,fo,fq,fs,ft,fu,fw,fx,da,fy,db,g0,ge,gf,gg,gh,gi,gj,gk,gl,gm,gn,gp,gq,gs,gt,gu,gv,gw,gx,gy,gz,i0,i4,i5,i6,i8,i9,ia,dc,ax,ie,ig,ii,de,dg,ij,ik,il,im,ip,iq,ir,iu,iv,iw,iy,j0,j3,j4,j5,j6,dh,j7,j8,j9,ja,jb,oa,oe,og,oh,oi,oj,ol,om,oo]
    rw [qv h_look, h_set ha']
    refine ⟨by simp, ⟨by rw [List.length_map]; lia, rfl, ?_⟩⟩
    have := hN (qs ++ [(V % b * 2 ^ n + D) / b]) (some (.int (D : Nat))) (some (.int ((V % b * 2 ^ n + D) / b : Nat))) (by simp [h1]) (by lia) (fun q hq => ?_) ?_
    · rw [s3] at this
      unfold mints at this ⊢; rw [List.map_append] at this; exact this
    · rcases List.mem_append.mp hq with hq | hq
      · exact h3 q hq
      · rw [List.mem_singleton.mp hq]; exact Nat.div_lt_of_lt_mul s1
    · rw [List.reverse_append, List.reverse_singleton, List.singleton_append, dval, h4, s2, Nat.mul_comm (2 ^ n), Nat.add_comm]
theorem neg_fdiv (a b : Int) : (-a).fdiv (-b) = a.fdiv b := Int.neg_fdiv_neg a b
theorem neg_fmod (a b : Int) : (-a).fmod (-b) = -(a.fmod b) := by
  rw [Int.fmod_def, Int.fmod_def, neg_fdiv, Int.neg_mul]; lia
theorem c_idm0 (S : SetOk G) {a b : Nat} {H : MH} {Q : MV → MH → Prop} (hb : 0 < b) (ha2 : Builtin.Int.intBits (a : Int) ≤ 2 ^ 18) (hb2 : Builtin.Int.intBits (b : Int) ≤ 2 ^ 18)
    (hq : Q (.tup [.int (a / b : Nat), .int (a % b : Nat)]) H) : Calls G 25 (.fn 74) [.int a, .int b] [] H Q := by
  refine calls_fn S.st S.f_int_divmod.fn (bd_int_divmod S _ _) ?_
  have e : l0 mj [("a", .int a), ("b", .int b)] = [some (.int a), some (.int b), none, none] := rfl
  rw [e, nw, b107]
  have z1 : ((b : Int) == 0) = false := by simp; lia
  have z2 : decide ((b : Int) < 0) = false := decide_eq_false (by lia)
  have z3 : decide ((a : Int) < 0) = false := decide_eq_false (by lia)
  simp only [b109,b112,b116,ay,di,dk,dl,ad,az,b0,ba,bb,ae,bc,bd,bg,bh,bj,bk,af,bl,ag,bn,bp,br,bs,bt,ah,ai,bv,aj,bw,ab,ak,bx,bz,al,c6,am,dn,dp,dq,dr,c7,du,dw,dx,dy,dz,ao,ap,c8,c9,ce,aq,au,aa,cf,cj,ck,cm,co,cq,cu,av,cw,cx,cy,cz,aw,d8,d9,a9,a8,e9,ee,ew,f0,f8,f9,fb,fe,ff,fg,fh,fi,fj,fk,fo,fq,fs,ft,fu,fw,fx,da,fy,db,g0,ge,gf,gg,gh,gi,gj,gk,gl,gm,gn,gp,gq,gs,gt,gu,gv,gw,gx,gy,gz,i0,i4,i5,i6,i8,i9,ia,dc,ax,ie,ig,ii,de,dg,ij,ik,il,im,ip,iq,ir,iu,iv,iw,iy,j0,j3,j4,j5,j6,dh,j7,j8,j9,ja,jb,z1,z2,z3]
  exact ⟨S.f__divmod_pos.glob, c_dmp S hb ha2 hb2 ⟨_, .refl _, hq⟩⟩
theorem c_idm1 (S : SetOk G) {P : Nat} (hP : ∀ m : Nat, m < P → Builtin.Int.intBits (m : Int) ≤ 2 ^ 18) {a : Int} {b : Nat} {H : MH} {Q : MV → MH → Prop} (hb : 0 < b) (ha2 : a.natAbs < P) (hb2 : Builtin.Int.intBits (b : Int) ≤ 2 ^ 18)
    (hq : Q (.tup [.int (a.fdiv b), .int (a.fmod b)]) H) : Calls G 26 (.fn 74) [.int a, .int b] [] H Q := by
  by_cases ha : 0 ≤ a
  · obtain ⟨m, rfl⟩ := Int.eq_ofNat_of_zero_le ha
    rw [fdiv_nat, fmod_nat] at hq
    exact (c_idm0 S hb (hP _ ha2) hb2 hq).up (by decide)
  refine calls_fn S.st S.f_int_divmod.fn (bd_int_divmod S _ _) ?_
  have e : l0 mj [("a", .int a), ("b", .int b)] = [some (.int a), some (.int b), none, none] := rfl
  rw [e, nw, b107]
  have z1 : ((b : Int) == 0) = false := by simp; lia
  have z2 : decide ((b : Int) < 0) = false := decide_eq_false (by lia)
  have z3 : decide (a < 0) = true := decide_eq_true (by lia)
  simp only [b109,b112,b113,ay,di,dk,dl,ad,az,b0,ba,bb,ae,bc,bd,bg,bh,bj,bk,af,bl,ag,bn,bp,br,bs,bt,ah,ai,bv,aj,bw,ab,ak,bx,bz,al,c6,am,dn,dp,dq,dr,c7,du,dw,dx,dy,dz,ao,ap,c8,c9,ce,aq,au,aa,cf,cj,ck,cm,co,cq,cu,av,cw,cx,cy,cz,aw,d8,d9,a9,a8,e9,ee,ew,f0,f8,f9,fb,fe,ff,fg,fh,fi,fj,fk,fo,fq,fs,ft,fu,fw,fx,da,fy,db,g0,ge,gf,gg,gh,gi,gj,gk,gl,gm,gn,gp,gq,gs,gt,gu,gv,gw,gx,gy,gz,i0,i4,i5,i6,i8,i9,ia,dc,ax,ie,ig,ii,de,dg,ij,ik,il,im,ip,iq,ir,iu,iv,iw,iy,j0,j3,j4,j5,j6,dh,j7,j8,j9,ja,jb,z1,z2,z3]
  obtain ⟨m, hm⟩ := Int.eq_ofNat_of_zero_le (show 0 ≤ -a - 1 by lia)
  rw [hm]
  refine ⟨S.f_int_divmod.glob, c_idm0 S hb (hP _ (by lia)) hb2 ?_⟩
  simp only [so,sp,sq,sr,true_and,b114,ay,di,dk,dl,ad,az,b0,ba,bb,ae,bc,bd,bg,bh,bj,bk,af,bl,ag,bn,bp,br,bs,bt,ah,ai,bv,aj,bw,ab,ak,bx,bz,al,c6,am,dn,dp,dq,dr,c7,du,dw,dx,dy,dz,ao,ap,c8,c9,ce,aq,au,aa,cf,cj,ck,cm,co,cq,cu,av,cw,cx,cy,cz,aw,d8,d9,a9,a8,e9,ee,ew,f0,f8,f9,fb,fe,ff,fg,fh,fi,fj,fk,fo,fq,fs,ft,fu,fw,fx,da,fy,db,g0,ge,gf,gg,gh,gi,gj,gk,gl,gm,gn,gp,gq,gs,gt,gu,gv,gw,gx,gy,gz,i0,i4,i5,i6,i8,i9,ia,dc,ax,ie,ig,ii,de,dg,ij,ik,il,im,ip,iq,ir,iu,iv,iw,iy,j0,j3,j4,j5,j6,dh,j7,j8,j9,ja,jb]
  refine ⟨by simp, _, .refl _, ?_⟩
  have h1 := Nat.div_add_mod m b
  have h2 := Nat.mod_lt m hb
  have e2 : (-((m / b : Nat) : Int) - 1) * (b : Int) + ((b : Int) + (-((m % b : Nat) : Int) - 1)) = a := by
    have h3 : ((b * (m / b) + m % b : Nat) : Int) = (m : Int) := by rw [h1]
    rw [Int.natCast_add, Int.natCast_mul, Int.mul_comm] at h3
    rw [Int.sub_mul, Int.neg_mul, Int.one_mul]
    generalize ((m / b : Nat) : Int) * (b : Int) = u at *
    lia
  obtain ⟨e3, e4⟩ := ediv_unique e2 (by lia) (by lia)
  rw [Int.fdiv_eq_ediv_of_nonneg _ (by lia), Int.fmod_eq_emod_of_nonneg _ (by lia), e3, e4] at hq
  exact hq
theorem c_idm (S : SetOk G) {P : Nat} (hP : ∀ m : Nat, m < P → Builtin.Int.intBits (m : Int) ≤ 2 ^ 18) {a b : Int} {H : MH} {Q : MV → MH → Prop} (hb : b ≠ 0) (ha2 : a.natAbs < P) (hb2 : b.natAbs < P)
    (hq : Q (.tup [.int (a.fdiv b), .int (a.fmod b)]) H) : Calls G 27 (.fn 74) [.int a, .int b] [] H Q := by
  by_cases h0 : 0 ≤ b
  · obtain ⟨m, rfl⟩ := Int.eq_ofNat_of_zero_le h0
    exact (c_idm1 S hP (by lia) ha2 (hP _ hb2) hq).up (by decide)
  refine calls_fn S.st S.f_int_divmod.fn (bd_int_divmod S _ _) ?_
  have e : l0 mj [("a", .int a), ("b", .int b)] = [some (.int a), some (.int b), none, none] := rfl
  rw [e, nw, b107]
  have z1 : (b == 0) = false := by simpa using hb
  have z2 : decide (b < 0) = true := decide_eq_true (by lia)
  simp only [b109,b110,ay,di,dk,dl,ad,az,b0,ba,bb,ae,bc,bd,bg,bh,bj,bk,af,bl,ag,bn,bp,br,bs,bt,ah,ai,bv,aj,bw,ab,ak,bx,bz,al,c6,am,dn,dp,dq,dr,c7,du,dw,dx,dy,dz,ao,ap,c8,c9,ce,aq,au,aa,cf,cj,ck,cm,co,cq,cu,av,cw,cx,cy,cz,aw,d8,d9,a9,a8,e9,ee,ew,f0,f8,f9,fb,fe,ff,fg,fh,fi,fj,fk,fo,fq,fs,ft,fu,fw,fx,da,fy,db,g0,ge,gf,gg,gh,gi,gj,gk,gl,gm,gn,gp,gq,gs,gt,gu,gv,gw,gx,gy,gz,i0,i4,i5,i6,i8,i9,ia,dc,ax,ie,ig,ii,de,dg,ij,ik,il,im,ip,iq,ir,iu,iv,iw,iy,j0,j3,j4,j5,j6,dh,j7,j8,j9,ja,jb,z1,z2]
  obtain ⟨m, hm⟩ := Int.eq_ofNat_of_zero_le (show 0 ≤ -b by lia)
  rw [hm]
  refine ⟨S.f_int_divmod.glob, c_idm1 S hP (by lia) (by rw [Int.natAbs_neg]; exact ha2) (hP _ (by lia)) ?_⟩
  simp only [so,sp,sq,sr,true_and,b111,ay,di,dk,dl,ad,az,b0,ba,bb,ae,bc,bd,bg,bh,bj,bk,af,bl,ag,bn,bp,br,bs,bt,ah,ai,bv,aj,bw,ab,ak,bx,bz,al,c6,am,dn,dp,dq,dr,c7,du,dw,dx,dy,dz,ao,ap,c8,c9,ce,aq,au,aa,cf,cj,ck,cm,co,cq,cu,av,cw,cx,cy,cz,aw,d8,d9,a9,a8,e9,ee,ew,f0,f8,f9,fb,fe,ff,fg,fh,fi,fj,fk,fo,fq,fs,ft,fu,fw,fx,da,fy,db,g0,ge,gf,gg,gh,gi,gj,gk,gl,gm,gn,gp,gq,gs,gt,gu,gv,gw,gx,gy,gz,i0,i4,i5,i6,i8,i9,ia,dc,ax,ie,ig,ii,de,dg,ij,ik,il,im,ip,iq,ir,iu,iv,iw,iy,j0,j3,j4,j5,j6,dh,j7,j8,j9,ja,jb]
  refine ⟨by simp, _, .refl _, ?_⟩
  have e1 : (-a).fdiv (m : Int) = a.fdiv b := by rw [← Int.neg_fdiv_neg a b, hm]
  have e2 : (-a).fmod (m : Int) = -(a.fmod b) := by rw [← neg_fmod a b, hm]
  rw [e1, e2, Int.neg_neg]
  exact hq
end Mine
namespace Mine
variable {G : Stat}
noncomputable def ellLoop (got : Str) : List Str → Nat → Nat → Bool
  | [], _, _ => true
  | w :: r, p, e => match Builtin.Str.occurrences got w p e 1 with
    | k :: _ => ellLoop got r (k + w.length) e
    | [] => false
noncomputable def ellRes (w0 : Str) (mid : List Str) (wl got : Str) : Bool :=
  Txt.startswith got w0 && (Txt.endswith got wl && (decide (w0.length + wl.length ≤ got.length) && ellLoop got mid w0.length (got.length - wl.length)))
theorem c_ell0 (S : SetOk G) {d : Nat} {want got : Str} {H : MH} {Q : MV → MH → Prop} (hno : Txt.contains want "..." = false) (hq : Q (.bool (want == got)) H) :
    Calls G (d + 1) (.fn 81) [.str want, .str got] [] H Q := by
  refine calls_fn S.st S.f__ellipsis_match.fn (bd__ellipsis_match S _ _) ?_
  have e : l0 lu [("want", .str want), ("got", .str got)] = [some (.str want), some (.str got), none, none, none, none] := rfl
  rw [e, ou, b120]
  simp only [b121,ay,di,dk,dl,ad,az,b0,ba,bb,ae,bc,bd,bg,bh,bj,bk,af,bl,ag,bn,bp,br,bs,bt,ah,ai,bv,aj,bw,ab,ak,bx,bz,al,c6,am,dn,dp,dq,dr,c7,du,dw,dx,dy,dz,ao,ap,c8,c9,ce,aq,au,aa,cf,cj,ck,cm,co,cq,cu,av,cw,cx,cy,cz,aw,d8,d9,a9,a8,e9,ee,ew,f0,f8,f9,fb,fe,ff,fg,fh,fi,fj,fk,fo,fq,fs,ft,fu,fw,fx,da,fy,db,g0,ge,gf,gg,gh,gi,gj,gk,gl,gm,gn,gp,gq,gs,gt,gu,gv,gw,gx,gy,gz,i0,i4,i5,i6,i8,i9,ia,dc,ax,ie,ig,ii,de,dg,ij,ik,il,im,ip,iq,ir,iu,iv,iw,iy,j0,j3,j4,j5,j6,dh,j7,j8,j9,ja,jb,gc_s S.ellipsis,hno,Bool.not_false]
  exact ⟨_, .refl _, hq⟩
theorem place_zero {n : Nat} (h : 0 < n) : place n 0 = some 0 := place_nat (i := 0) h
theorem ell_for (S : SetOk G) {d : Nat} {want got : Str} {wsv : MV} {H : MH} {R : MV → MH → Prop} {N : Loc → MH → Prop} {e : Nat} (he : e ≤ got.length) {f : MV → Loc → MH → (Loc → MH → Prop) → Prop}
    (hf : ∀ x l' H' N', (setOk lu l' 5 ∧ exs G d b142 lu (l'.set 5 (some x)) H' N' R) → f x l' H' N') : ∀ (mid : List Str) (p : Nat) (x : Option MV), (∀ w ∈ mid, w.length ≤ 2 ^ 20) →
    (ellLoop got mid p e = true → ∀ l, N l H) → (ellLoop got mid p e = false → R (.bool false) H) →
    forGo f N (mid.map .str) [some (.str want), some (.str got), some wsv, some (.int p), some (.int e), x] H
  | [], p, x, hl, h1, h2 => h1 rfl _
  | w :: r, p, x, hl, h1, h2 => by
    rw [List.map_cons, forGo]
    refine hf _ _ _ _ ?_
    rw [b142]
    simp only [b143,ay,di,dk,dl,ad,az,b0,ba,bb,ae,bc,bd,bg,bh,bj,bk,af,bl,ag,bn,bp,br,bs,bt,ah,ai,bv,aj,bw,ab,ak,bx,bz,al,c6,am,dn,dp,dq,dr,c7,du,dw,dx,dy,dz,ao,ap,c8,c9,ce,aq,au,aa,cf,cj,ck,cm,co,cq,cu,av,cw,cx,cy,cz,aw,d8,d9,a9,a8,e9,ee,ew,f0,f8,f9,fb,fe,ff,fg,fh,fi,fj,fk,fo,fq,fs,ft,fu,fw,fx,da,fy,db,g0,ge,gf,gg,gh,gi,gj,gk,gl,gm,gn,gp,gq,gs,gt,gu,gv,gw,gx,gy,gz,i0,i4,i5,i6,i8,i9,ia,dc,ax,ie,ig,ii,de,dg,ij,ik,il,im,ip,iq,ir,iu,iv,iw,iy,j0,j3,j4,j5,j6,dh,j7,j8,j9,ja,jb,m6,m7,m8,m9,mc,me]
    refine ⟨⟨by lia, by lia, by lia⟩, ?_⟩
    rw [toNat_nat, toNat_nat]
    rw [ellLoop] at h1 h2
    cases ho : Builtin.Str.occurrences got w p e 1 with
    | nil =>
      rw [ho] at h2
      simp only [b144,ay,di,dk,dl,ad,az,b0,ba,bb,ae,bc,bd,bg,bh,bj,bk,af,bl,ag,bn,bp,br,bs,bt,ah,ai,bv,aj,bw,ab,ak,bx,bz,al,c6,am,dn,dp,dq,dr,c7,du,dw,dx,dy,dz,ao,ap,c8,c9,ce,aq,au,aa,cf,cj,ck,cm,co,cq,cu,av,cw,cx,cy,cz,aw,d8,d9,a9,a8,e9,ee,ew,f0,f8,f9,fb,fe,ff,fg,fh,fi,fj,fk,fo,fq,fs,ft,fu,fw,fx,da,fy,db,g0,ge,gf,gg,gh,gi,gj,gk,gl,gm,gn,gp,gq,gs,gt,gu,gv,gw,gx,gy,gz,i0,i4,i5,i6,i8,i9,ia,dc,ax,ie,ig,ii,de,dg,ij,ik,il,im,ip,iq,ir,iu,iv,iw,iy,j0,j3,j4,j5,j6,dh,j7,j8,j9,ja,jb,show decide ((-1 : Int) < 0) = true from rfl]
      exact ⟨_, .refl _, h2 rfl⟩
    | cons k ks =>
      rw [ho] at h1 h2
      have : decide ((k : Int) < 0) = false := decide_eq_false (by lia)
      simp only [b145,ay,di,dk,dl,ad,az,b0,ba,bb,ae,bc,bd,bg,bh,bj,bk,af,bl,ag,bn,bp,br,bs,bt,ah,ai,bv,aj,bw,ab,ak,bx,bz,al,c6,am,dn,dp,dq,dr,c7,du,dw,dx,dy,dz,ao,ap,c8,c9,ce,aq,au,aa,cf,cj,ck,cm,co,cq,cu,av,cw,cx,cy,cz,aw,d8,d9,a9,a8,e9,ee,ew,f0,f8,f9,fb,fe,ff,fg,fh,fi,fj,fk,fo,fq,fs,ft,fu,fw,fx,da,fy,db,g0,ge,gf,gg,gh,gi,gj,gk,gl,gm,gn,gp,gq,gs,gt,gu,gv,gw,gx,gy,gz,i0,i4,i5,i6,i8,i9,ia,dc,ax,ie,ig,ii,de,dg,ij,ik,il,im,ip,iq,ir,iu,iv,iw,iy,j0,j3,j4,j5,j6,dh,j7,j8,j9,ja,jb,m6,m7,m8,m9,mc,me,this]
      refine ⟨hl w (.head _), ?_⟩
      rw [← Int.natCast_add]
      exact ell_for S he hf r (k + w.length) _ (fun v hv => hl v (.tail _ hv)) h1 h2
theorem c_ell (S : SetOk G) {d : Nat} {want got w0 wl : Str} {mid : List Str} {H : MH} {Q : MV → MH → Prop} (hd : Txt.contains want "..." = true) (hs : Txt.split want "..." = w0 :: (mid ++ [wl])) (h0 : w0.length ≠ 0) (hl : wl.length ≠ 0)
    (hw : want.length ≤ 2 ^ 20) (hg : got.length ≤ 2 ^ 20) (hm : ∀ w ∈ w0 :: (mid ++ [wl]), w.length ≤ 2 ^ 20) (hml : mid.length ≤ 2 ^ 10) (hq : Q (.bool (ellRes w0 mid wl got)) H) :
    Calls G (d + 1) (.fn 81) [.str want, .str got] [] H Q := by
  refine calls_fn S.st S.f__ellipsis_match.fn (bd__ellipsis_match S _ _) ?_
  have e : l0 lu [("want", .str want), ("got", .str got)] = [some (.str want), some (.str got), none, none, none, none] := rfl
  rw [e, ou, b120]
  simp only [b122,ay,di,dk,dl,ad,az,b0,ba,bb,ae,bc,bd,bg,bh,bj,bk,af,bl,ag,bn,bp,br,bs,bt,ah,ai,bv,aj,bw,ab,ak,bx,bz,al,c6,am,dn,dp,dq,dr,c7,du,dw,dx,dy,dz,ao,ap,c8,c9,ce,aq,au,aa,cf,cj,ck,cm,co,cq,cu,av,cw,cx,cy,cz,aw,d8,d9,a9,a8,e9,ee,ew,f0,f8,f9,fb,fe,ff,fg,fh,fi,fj,fk,fo,fq,fs,ft,fu,fw,fx,da,fy,db,g0,ge,gf,gg,gh,gi,gj,gk,gl,gm,gn,gp,gq,gs,gt,gu,gv,gw,gx,gy,gz,i0,i4,i5,i6,i8,i9,ia,dc,ax,ie,ig,ii,de,dg,ij,ik,il,im,ip,iq,ir,iu,iv,iw,iy,j0,j3,j4,j5,j6,dh,j7,j8,j9,ja,jb,gc_s S.ellipsis,hd,Bool.not_true,m6,m7,m8,m9,mc,me]
  refine ⟨⟨by decide, hw⟩, fun a ha => ?_⟩
  rw [hs, List.map_cons, List.map_append, List.map_cons, List.map_nil]
  have hlen : (MV.str w0 :: (List.map MV.str mid ++ [MV.str wl])).length = mid.length + 2 := by simp
  simp only [b123,ay,di,dk,dl,ad,az,b0,ba,bb,ae,bc,bd,bg,bh,bj,bk,af,bl,ag,bn,bp,br,bs,bt,ah,ai,bv,aj,bw,ab,ak,bx,bz,al,c6,am,dn,dp,dq,dr,c7,du,dw,dx,dy,dz,ao,ap,c8,c9,ce,aq,au,aa,cf,cj,ck,cm,co,cq,cu,av,cw,cx,cy,cz,aw,d8,d9,a9,a8,e9,ee,ew,f0,f8,f9,fb,fe,ff,fg,fh,fi,fj,fk,fo,fq,fs,ft,fu,fw,fx,da,fy,db,g0,ge,gf,gg,gh,gi,gj,gk,gl,gm,gn,gp,gq,gs,gt,gu,gv,gw,gx,gy,gz,i0,i4,i5,i6,i8,i9,ia,dc,ax,ie,ig,ii,de,dg,ij,ik,il,im,ip,iq,ir,iu,iv,iw,iy,j0,j3,j4,j5,j6,dh,j7,j8,j9,ja,jb,m6,m7,m8,m9,mc,me]
  rw [qt h_look, hlen]
  refine ⟨by lia, ?_⟩
  simp only [b124,ay,di,dk,dl,ad,az,b0,ba,bb,ae,bc,bd,bg,bh,bj,bk,af,bl,ag,bn,bp,br,bs,bt,ah,ai,bv,aj,bw,ab,ak,bx,bz,al,c6,am,dn,dp,dq,dr,c7,du,dw,dx,dy,dz,ao,ap,c8,c9,ce,aq,au,aa,cf,cj,ck,cm,co,cq,cu,av,cw,cx,cy,cz,aw,d8,d9,a9,a8,e9,ee,ew,f0,f8,f9,fb,fe,ff,fg,fh,fi,fj,fk,fo,fq,fs,ft,fu,fw,fx,da,fy,db,g0,ge,gf,gg,gh,gi,gj,gk,gl,gm,gn,gp,gq,gs,gt,gu,gv,gw,gx,gy,gz,i0,i4,i5,i6,i8,i9,ia,dc,ax,ie,ig,ii,de,dg,ij,ik,il,im,ip,iq,ir,iu,iv,iw,iy,j0,j3,j4,j5,j6,dh,j7,j8,j9,ja,jb,m6,m7,m8,m9,mc,me]
  refine ⟨decide_eq_true (by lia), ⟨_, _, rfl, rfl, by decide⟩, hg, ?_⟩
  simp only [b125,ay,di,dk,dl,ad,az,b0,ba,bb,ae,bc,bd,bg,bh,bj,bk,af,bl,ag,bn,bp,br,bs,bt,ah,ai,bv,aj,bw,ab,ak,bx,bz,al,c6,am,dn,dp,dq,dr,c7,du,dw,dx,dy,dz,ao,ap,c8,c9,ce,aq,au,aa,cf,cj,ck,cm,co,cq,cu,av,cw,cx,cy,cz,aw,d8,d9,a9,a8,e9,ee,ew,f0,f8,f9,fb,fe,ff,fg,fh,fi,fj,fk,fo,fq,fs,ft,fu,fw,fx,da,fy,db,g0,ge,gf,gg,gh,gi,gj,gk,gl,gm,gn,gp,gq,gs,gt,gu,gv,gw,gx,gy,gz,i0,i4,i5,i6,i8,i9,ia,dc,ax,ie,ig,ii,de,dg,ij,ik,il,im,ip,iq,ir,iu,iv,iw,iy,j0,j3,j4,j5,j6,dh,j7,j8,j9,ja,jb,m6,m7,m8,m9,mc,me]
  rw [qe h_look (place_zero (by rw [hlen]; lia)) rfl]
  refine ⟨by unfold intOk; lia, ?_⟩
  have t0 : (!(w0.length == 0)) = true := by simpa using h0
  have tl : (!(wl.length == 0)) = true := by simpa using hl
  unfold ellRes at hq
  simp only [b126,b127,ay,di,dk,dl,ad,az,b0,ba,bb,ae,bc,bd,bg,bh,bj,bk,af,bl,ag,bn,bp,br,bs,bt,ah,ai,bv,aj,bw,ab,ak,bx,bz,al,c6,am,dn,dp,dq,dr,c7,du,dw,dx,dy,dz,ao,ap,c8,c9,ce,aq,au,aa,cf,cj,ck,cm,co,cq,cu,av,cw,cx,cy,cz,aw,d8,d9,a9,a8,e9,ee,ew,f0,f8,f9,fb,fe,ff,fg,fh,fi,fj,fk,fo,fq,fs,ft,fu,fw,fx,da,fy,db,g0,ge,gf,gg,gh,gi,gj,gk,gl,gm,gn,gp,gq,gs,gt,gu,gv,gw,gx,gy,gz,i0,i4,i5,i6,i8,i9,ia,dc,ax,ie,ig,ii,de,dg,ij,ik,il,im,ip,iq,ir,iu,iv,iw,iy,j0,j3,j4,j5,j6,dh,j7,j8,j9,ja,jb,m6,m7,m8,m9,mc,me,t0]
  refine ⟨hm _ (.head _), ?_⟩
  cases hst : Txt.startswith got w0 with
  | false =>
    rw [hst, Bool.false_and] at hq
    simp only [b131,ay,di,dk,dl,ad,az,b0,ba,bb,ae,bc,bd,bg,bh,bj,bk,af,bl,ag,bn,bp,br,bs,bt,ah,ai,bv,aj,bw,ab,ak,bx,bz,al,c6,am,dn,dp,dq,dr,c7,du,dw,dx,dy,dz,ao,ap,c8,c9,ce,aq,au,aa,cf,cj,ck,cm,co,cq,cu,av,cw,cx,cy,cz,aw,d8,d9,a9,a8,e9,ee,ew,f0,f8,f9,fb,fe,ff,fg,fh,fi,fj,fk,fo,fq,fs,ft,fu,fw,fx,da,fy,db,g0,ge,gf,gg,gh,gi,gj,gk,gl,gm,gn,gp,gq,gs,gt,gu,gv,gw,gx,gy,gz,i0,i4,i5,i6,i8,i9,ia,dc,ax,ie,ig,ii,de,dg,ij,ik,il,im,ip,iq,ir,iu,iv,iw,iy,j0,j3,j4,j5,j6,dh,j7,j8,j9,ja,jb]
    exact ⟨H, List.sublist_cons_self _ _, hq⟩
  | true =>
    rw [hst, Bool.true_and] at hq
    simp only [b128,b129,ay,di,dk,dl,ad,az,b0,ba,bb,ae,bc,bd,bg,bh,bj,bk,af,bl,ag,bn,bp,br,bs,bt,ah,ai,bv,aj,bw,ab,ak,bx,bz,al,c6,am,dn,dp,dq,dr,c7,du,dw,dx,dy,dz,ao,ap,c8,c9,ce,aq,au,aa,cf,cj,ck,cm,co,cq,cu,av,cw,cx,cy,cz,aw,d8,d9,a9,a8,e9,ee,ew,f0,f8,f9,fb,fe,ff,fg,fh,fi,fj,fk,fo,fq,fs,ft,fu,fw,fx,da,fy,db,g0,ge,gf,gg,gh,gi,gj,gk,gl,gm,gn,gp,gq,gs,gt,gu,gv,gw,gx,gy,gz,i0,i4,i5,i6,i8,i9,ia,dc,ax,ie,ig,ii,de,dg,ij,ik,il,im,ip,iq,ir,iu,iv,iw,iy,j0,j3,j4,j5,j6,dh,j7,j8,j9,ja,jb,m6,m7,m8,m9,mc,me]
    refine ⟨hm _ (.head _), ?_⟩
    rw [s7 h_look (place_zero (by rw [hlen]; lia)), h_set ha]
    refine ⟨by unfold intOk; lia, by lia, ?_⟩
    rw [List.eraseIdx_cons_zero]
    have hlen2 : (List.map MV.str mid ++ [MV.str wl]).length = mid.length + 1 := by simp
    have hidx : (List.map MV.str mid ++ [MV.str wl])[mid.length + 1 - 1 - 0]? = some (.str wl) := by
      rw [List.getElem?_append_right (by simp)]; simp
    have hpl : place (mid.length + 1) (-1) = some (mid.length + 1 - 1 - 0) := place_neg (n := mid.length + 1) (i := 0) (by lia)
    simp only [b132,ay,di,dk,dl,ad,az,b0,ba,bb,ae,bc,bd,bg,bh,bj,bk,af,bl,ag,bn,bp,br,bs,bt,ah,ai,bv,aj,bw,ab,ak,bx,bz,al,c6,am,dn,dp,dq,dr,c7,du,dw,dx,dy,dz,ao,ap,c8,c9,ce,aq,au,aa,cf,cj,ck,cm,co,cq,cu,av,cw,cx,cy,cz,aw,d8,d9,a9,a8,e9,ee,ew,f0,f8,f9,fb,fe,ff,fg,fh,fi,fj,fk,fo,fq,fs,ft,fu,fw,fx,da,fy,db,g0,ge,gf,gg,gh,gi,gj,gk,gl,gm,gn,gp,gq,gs,gt,gu,gv,gw,gx,gy,gz,i0,i4,i5,i6,i8,i9,ia,dc,ax,ie,ig,ii,de,dg,ij,ik,il,im,ip,iq,ir,iu,iv,iw,iy,j0,j3,j4,j5,j6,dh,j7,j8,j9,ja,jb,m6,m7,m8,m9,mc,me]
    rw [qe h_look (by rw [hlen2]; exact hpl) hidx]
    refine ⟨by unfold intOk; lia, ?_⟩
    simp only [b133,b134,ay,di,dk,dl,ad,az,b0,ba,bb,ae,bc,bd,bg,bh,bj,bk,af,bl,ag,bn,bp,br,bs,bt,ah,ai,bv,aj,bw,ab,ak,bx,bz,al,c6,am,dn,dp,dq,dr,c7,du,dw,dx,dy,dz,ao,ap,c8,c9,ce,aq,au,aa,cf,cj,ck,cm,co,cq,cu,av,cw,cx,cy,cz,aw,d8,d9,a9,a8,e9,ee,ew,f0,f8,f9,fb,fe,ff,fg,fh,fi,fj,fk,fo,fq,fs,ft,fu,fw,fx,da,fy,db,g0,ge,gf,gg,gh,gi,gj,gk,gl,gm,gn,gp,gq,gs,gt,gu,gv,gw,gx,gy,gz,i0,i4,i5,i6,i8,i9,ia,dc,ax,ie,ig,ii,de,dg,ij,ik,il,im,ip,iq,ir,iu,iv,iw,iy,j0,j3,j4,j5,j6,dh,j7,j8,j9,ja,jb,m6,m7,m8,m9,mc,me,tl]
    refine ⟨hm wl (by simp), ?_⟩
    cases hen : Txt.endswith got wl with
    | false =>
      rw [hen, Bool.false_and] at hq
      simp only [b138,ay,di,dk,dl,ad,az,b0,ba,bb,ae,bc,bd,bg,bh,bj,bk,af,bl,ag,bn,bp,br,bs,bt,ah,ai,bv,aj,bw,ab,ak,bx,bz,al,c6,am,dn,dp,dq,dr,c7,du,dw,dx,dy,dz,ao,ap,c8,c9,ce,aq,au,aa,cf,cj,ck,cm,co,cq,cu,av,cw,cx,cy,cz,aw,d8,d9,a9,a8,e9,ee,ew,f0,f8,f9,fb,fe,ff,fg,fh,fi,fj,fk,fo,fq,fs,ft,fu,fw,fx,da,fy,db,g0,ge,gf,gg,gh,gi,gj,gk,gl,gm,gn,gp,gq,gs,gt,gu,gv,gw,gx,gy,gz,i0,i4,i5,i6,i8,i9,ia,dc,ax,ie,ig,ii,de,dg,ij,ik,il,im,ip,iq,ir,iu,iv,iw,iy,j0,j3,j4,j5,j6,dh,j7,j8,j9,ja,jb]
      exact ⟨H, List.sublist_cons_self _ _, hq⟩
    | true =>
      rw [hen, Bool.true_and] at hq
      simp only [b135,b136,ay,di,dk,dl,ad,az,b0,ba,bb,ae,bc,bd,bg,bh,bj,bk,af,bl,ag,bn,bp,br,bs,bt,ah,ai,bv,aj,bw,ab,ak,bx,bz,al,c6,am,dn,dp,dq,dr,c7,du,dw,dx,dy,dz,ao,ap,c8,c9,ce,aq,au,aa,cf,cj,ck,cm,co,cq,cu,av,cw,cx,cy,cz,aw,d8,d9,a9,a8,e9,ee,ew,f0,f8,f9,fb,fe,ff,fg,fh,fi,fj,fk,fo,fq,fs,ft,fu,fw,fx,da,fy,db,g0,ge,gf,gg,gh,gi,gj,gk,gl,gm,gn,gp,gq,gs,gt,gu,gv,gw,gx,gy,gz,i0,i4,i5,i6,i8,i9,ia,dc,ax,ie,ig,ii,de,dg,ij,ik,il,im,ip,iq,ir,iu,iv,iw,iy,j0,j3,j4,j5,j6,dh,j7,j8,j9,ja,jb,m6,m7,m8,m9,mc,me]
      refine ⟨hm wl (by simp), ?_⟩
      rw [s7 h_look (by rw [hlen2]; exact hpl), h_set ha]
      refine ⟨by unfold intOk; lia, by lia, ?_⟩
      have her : (List.map MV.str mid ++ [MV.str wl]).eraseIdx (mid.length + 1 - 1 - 0) = List.map MV.str mid := by
        rw [List.eraseIdx_append_of_length_le (by simp)]; simp
      rw [her]
      simp only [b139,ay,di,dk,dl,ad,az,b0,ba,bb,ae,bc,bd,bg,bh,bj,bk,af,bl,ag,bn,bp,br,bs,bt,ah,ai,bv,aj,bw,ab,ak,bx,bz,al,c6,am,dn,dp,dq,dr,c7,du,dw,dx,dy,dz,ao,ap,c8,c9,ce,aq,au,aa,cf,cj,ck,cm,co,cq,cu,av,cw,cx,cy,cz,aw,d8,d9,a9,a8,e9,ee,ew,f0,f8,f9,fb,fe,ff,fg,fh,fi,fj,fk,fo,fq,fs,ft,fu,fw,fx,da,fy,db,g0,ge,gf,gg,gh,gi,gj,gk,gl,gm,gn,gp,gq,gs,gt,gu,gv,gw,gx,gy,gz,i0,i4,i5,i6,i8,i9,ia,dc,ax,ie,ig,ii,de,dg,ij,ik,il,im,ip,iq,ir,iu,iv,iw,iy,j0,j3,j4,j5,j6,dh,j7,j8,j9,ja,jb,m6,m7,m8,m9,mc,me]
      have hle : wl.length ≤ got.length := by
        unfold Txt.endswith at hen
        rw [Bool.and_eq_true] at hen
        have := of_decide_eq_true hen.1
        lia
      have egs : ((got.length : Int) - (wl.length : Int)) = ((got.length - wl.length : Nat) : Int) := by lia
      rw [egs]
      cases hc : decide ((w0.length : Int) > ((got.length - wl.length : Nat) : Int)) with
      | true =>
        have : decide (w0.length + wl.length ≤ got.length) = false := decide_eq_false (by have := of_decide_eq_true hc; lia)
        rw [this, Bool.false_and] at hq
        simp only [b140,ay,di,dk,dl,ad,az,b0,ba,bb,ae,bc,bd,bg,bh,bj,bk,af,bl,ag,bn,bp,br,bs,bt,ah,ai,bv,aj,bw,ab,ak,bx,bz,al,c6,am,dn,dp,dq,dr,c7,du,dw,dx,dy,dz,ao,ap,c8,c9,ce,aq,au,aa,cf,cj,ck,cm,co,cq,cu,av,cw,cx,cy,cz,aw,d8,d9,a9,a8,e9,ee,ew,f0,f8,f9,fb,fe,ff,fg,fh,fi,fj,fk,fo,fq,fs,ft,fu,fw,fx,da,fy,db,g0,ge,gf,gg,gh,gi,gj,gk,gl,gm,gn,gp,gq,gs,gt,gu,gv,gw,gx,gy,gz,i0,i4,i5,i6,i8,i9,ia,dc,ax,ie,ig,ii,de,dg,ij,ik,il,im,ip,iq,ir,iu,iv,iw,iy,j0,j3,j4,j5,j6,dh,j7,j8,j9,ja,jb]
        exact ⟨H, List.sublist_cons_self _ _, hq⟩
      | false =>
        have : decide (w0.length + wl.length ≤ got.length) = true := decide_eq_true (by have := of_decide_eq_false hc; lia)
        rw [this, Bool.true_and] at hq
        simp only [b141,ay,di,dk,dl,ad,az,b0,ba,bb,ae,bc,bd,bg,bh,bj,bk,af,bl,ag,bn,bp,br,bs,bt,ah,ai,bv,aj,bw,ab,ak,bx,bz,al,c6,am,dn,dp,dq,dr,c7,du,dw,dx,dy,dz,ao,ap,c8,c9,ce,aq,au,aa,cf,cj,ck,cm,co,cq,cu,av,cw,cx,cy,cz,aw,d8,d9,a9,a8,e9,ee,ew,f0,f8,f9,fb,fe,ff,fg,fh,fi,fj,fk,fo,fq,fs,ft,fu,fw,fx,da,fy,db,g0,ge,gf,gg,gh,gi,gj,gk,gl,gm,gn,gp,gq,gs,gt,gu,gv,gw,gx,gy,gz,i0,i4,i5,i6,i8,i9,ia,dc,ax,ie,ig,ii,de,dg,ij,ik,il,im,ip,iq,ir,iu,iv,iw,iy,j0,j3,j4,j5,j6,dh,j7,j8,j9,ja,jb]
        rw [wx h_look, h_del ha, List.length_map]
        refine ⟨by lia, ?_⟩
        refine ell_for S (by lia) (fun _ _ _ _ h => h) mid _ _ (fun w hw => hm w (by simp [hw])) (fun h l => ?_) (fun h => ?_)
        · rw [h] at hq
          simp only [b146,ay,di,dk,dl,ad,az,b0,ba,bb,ae,bc,bd,bg,bh,bj,bk,af,bl,ag,bn,bp,br,bs,bt,ah,ai,bv,aj,bw,ab,ak,bx,bz,al,c6,am,dn,dp,dq,dr,c7,du,dw,dx,dy,dz,ao,ap,c8,c9,ce,aq,au,aa,cf,cj,ck,cm,co,cq,cu,av,cw,cx,cy,cz,aw,d8,d9,a9,a8,e9,ee,ew,f0,f8,f9,fb,fe,ff,fg,fh,fi,fj,fk,fo,fq,fs,ft,fu,fw,fx,da,fy,db,g0,ge,gf,gg,gh,gi,gj,gk,gl,gm,gn,gp,gq,gs,gt,gu,gv,gw,gx,gy,gz,i0,i4,i5,i6,i8,i9,ia,dc,ax,ie,ig,ii,de,dg,ij,ik,il,im,ip,iq,ir,iu,iv,iw,iy,j0,j3,j4,j5,j6,dh,j7,j8,j9,ja,jb]
          exact ⟨_, .refl _, hq⟩
        · rw [h] at hq; exact hq
end Mine
namespace Mine
abbrev sg (c : Nat) : Str := ⟨#[c]⟩
abbrev tx (l : List Nat) : Str := ⟨l.toArray⟩
noncomputable def nextAt (h : List Nat) (c : Nat) : Nat → Nat → List Nat
  | _, 0 => []
  | p, n + 1 => if h[p]? = some c then [p] else nextAt h c (p + 1) n
theorem occ_stop (s sub : Str) (hi : Nat) : ∀ (l : List Nat) (st : Array Nat × Nat), st.fst.size = 1 → (forIn l st (StrLaws.occBody s sub hi 1)).run.fst = st.fst
  | [], st, h => rfl
  | a :: l, st, h => by
    rw [List.forIn_cons]
    unfold StrLaws.occBody
    rw [if_neg (by lia)]
    exact occ_stop s sub hi l (st.fst, st.snd) h
theorem occ_next (s : Str) (c hi : Nat) (hh : hi ≤ s.length) : ∀ (n lo free : Nat), free ≤ lo → lo + n = hi + 1 →
    (forIn (List.range' lo n) ((#[] : Array Nat), free) (StrLaws.occBody s (sg c) hi 1)).run.fst.toList = nextAt s.cps.toList c lo (n - 1)
  | 0, lo, free, h1, h2 => rfl
  | n + 1, lo, free, h1, h2 => by
    rw [List.range'_succ, List.forIn_cons]
    unfold StrLaws.occBody
    have key := StrLaws.subAt_one s c lo
    by_cases hc : lo + (sg c).length ≤ hi ∧ Builtin.Str.subAt s (sg c) lo = true
    · rw [if_pos ⟨⟨⟨by simp, h1⟩, hc.1⟩, hc.2⟩]
      have hg := key.mp ⟨Nat.le_trans hc.1 hh, hc.2⟩
      have hn : ∃ m, n + 1 - 1 = m + 1 := ⟨n - 1, by have := hc.1; simp [Str.length] at this; lia⟩
      obtain ⟨m, hm⟩ := hn
      rw [hm, nextAt, if_pos hg]
      have := occ_stop s (sg c) hi (List.range' (lo + 1) n) (#[lo], lo + (sg c).length) rfl
      unfold StrLaws.occBody at this
      exact congrArg Array.toList this
    · rw [if_neg (fun q => hc ⟨q.1.2, q.2⟩)]
      have ih := occ_next s c hi hh n (lo + 1) free (by lia) (by lia)
      unfold StrLaws.occBody at ih
      refine Eq.trans ih ?_
      cases n with
      | zero => rfl
      | succ m =>
        show nextAt s.cps.toList c (lo + 1) m = nextAt s.cps.toList c lo (m + 1)
        rw [nextAt, if_neg]
        intro hg
        refine hc ⟨?_, (key.mpr hg).2⟩
        simp [Str.length]; lia
theorem occ1 (s : Str) (c lo hi : Nat) (hh : hi ≤ s.length) (hl : lo ≤ hi) : Builtin.Str.occurrences s (sg c) lo hi 1 = nextAt s.cps.toList c lo (hi - lo) := by
  rw [StrLaws.occ_eq, occ_next s c hi hh (hi + 1 - lo) lo lo (Nat.le_refl _) (by lia)]
  congr 1; lia
noncomputable def greedy (h : List Nat) : List Nat → Nat → Nat → Bool
  | [], _, _ => true
  | c :: cs, p, e => match nextAt h c p (e - p) with
    | k :: _ => greedy h cs (k + 1) e
    | [] => false
theorem nextAt_le {h : List Nat} {c : Nat} : ∀ (n p k : Nat) (r : List Nat), nextAt h c p n = k :: r → p ≤ k ∧ k < p + n
  | 0, p, k, r, e => by cases e
  | n + 1, p, k, r, e => by
    rw [nextAt] at e
    split at e
    · cases e; lia
    · have := nextAt_le n (p + 1) k r e; lia
theorem greedy_sub {h : List Nat} {e : Nat} (he : e ≤ h.length) : ∀ (cs : List Nat) (n p : Nat), p + n = e → greedy h cs p e = cs.isSublist ((h.drop p).take n)
  | [], n, p, hp => by
    rw [greedy]
    cases (h.drop p).take n <;> rfl
  | c :: cs, 0, p, hp => by
    rw [greedy, show e - p = 0 by lia]; rfl
  | c :: cs, n + 1, p, hp => by
    rw [greedy, show e - p = n + 1 by lia, nextAt]
    have hg : h[p]? = some h[p] := List.getElem?_eq_getElem (by lia)
    rw [List.drop_eq_getElem_cons (by lia), List.take_succ_cons, List.isSublist]
    by_cases hc : h[p]? = some c
    · rw [if_pos hc]
      have hx : h[p] = c := by rw [hg] at hc; exact Option.some.inj hc
      rw [if_pos (by rw [hx]; exact beq_self_eq_true c)]
      show greedy h cs (p + 1) e = _
      exact greedy_sub he cs n (p + 1) (by lia)
    · rw [if_neg hc, if_neg (by intro q; exact hc (by rw [hg, beq_iff_eq.mp q]))]
      have ih := greedy_sub he (c :: cs) n (p + 1) (by lia)
      rw [greedy, show e - (p + 1) = n by lia] at ih
      exact ih
noncomputable def hs : List Nat → Nat → List Nat
  | [], _ => []
  | x :: xs, c => if c % 2 = 1 then x :: hs xs (c / 2) else hs xs (c / 2)
theorem and_rec (r c : Nat) : (r &&& c = r) ↔ ((r % 2 = 1 → c % 2 = 1) ∧ (r / 2) &&& (c / 2) = r / 2) := by
  constructor
  · intro h
    refine ⟨fun hr => ?_, ?_⟩
    · have : (r &&& c) % 2 = 1 := by rw [h]; exact hr
      rw [Nat.and_mod_two_eq_one] at this
      exact this.2
    · have := congrArg (· / 2) h
      simpa [Nat.and_div_two] using this
  · rintro ⟨h1, h2⟩
    have e1 : (r &&& c) / 2 = r / 2 := by rw [Nat.and_div_two]; exact h2
    have e2 : (r &&& c) % 2 = r % 2 := by
      have h3 := Nat.and_mod_two_eq_one (a := r) (b := c)
      rcases Nat.mod_two_eq_zero_or_one r with q | q
      · rcases Nat.mod_two_eq_zero_or_one (r &&& c) with u | u
        · lia
        · have := (h3.mp u).1; lia
      · have := h3.mpr ⟨q, h1 q⟩; lia
    lia
theorem sub_hs : ∀ (xs : List Nat) (w : List Nat) (c : Nat), w.Sublist (hs xs c) ↔ ∃ r, r < 2 ^ xs.length ∧ r &&& c = r ∧ hs xs r = w
  | [], w, c => by
    simp only [hs, List.sublist_nil, List.length_nil, Nat.pow_zero]
    constructor
    · rintro rfl; exact ⟨0, by lia, by simp, rfl⟩
    · rintro ⟨r, h1, h2, h3⟩; exact h3.symm
  | x :: xs, w, c => by
    have ih := fun w => sub_hs xs w (c / 2)
    rw [hs]
    by_cases hc : c % 2 = 1
    · rw [if_pos hc, List.sublist_cons_iff, ih]
      constructor
      · rintro (⟨r, h1, h2, h3⟩ | ⟨w', rfl, h⟩)
        · refine ⟨2 * r, by rw [List.length_cons, Nat.pow_succ]; lia, ?_, ?_⟩
          · rw [and_rec]; exact ⟨fun q => by lia, by rw [Nat.mul_div_cancel_left _ (by decide)]; exact h2⟩
          · rw [hs, if_neg (by lia), Nat.mul_div_cancel_left _ (by decide)]; exact h3
        · obtain ⟨r, h1, h2, h3⟩ := (ih w').mp h
          refine ⟨2 * r + 1, by rw [List.length_cons, Nat.pow_succ]; lia, ?_, ?_⟩
          · rw [and_rec]; exact ⟨fun _ => hc, by rw [show (2 * r + 1) / 2 = r by lia]; exact h2⟩
          · rw [hs, if_pos (by lia), show (2 * r + 1) / 2 = r by lia, h3]
      · rintro ⟨r, h1, h2, h3⟩
        rw [List.length_cons, Nat.pow_succ] at h1
        rw [and_rec] at h2
        rw [hs] at h3
        by_cases hr : r % 2 = 1
        · rw [if_pos hr] at h3
          exact .inr ⟨_, h3.symm, (ih _).mpr ⟨r / 2, by lia, h2.2, rfl⟩⟩
        · rw [if_neg hr] at h3
          exact .inl ⟨r / 2, by lia, h2.2, h3⟩
    · rw [if_neg hc, ih]
      constructor
      · rintro ⟨r, h1, h2, h3⟩
        refine ⟨2 * r, by rw [List.length_cons, Nat.pow_succ]; lia, ?_, ?_⟩
        · rw [and_rec]; exact ⟨fun q => by lia, by rw [Nat.mul_div_cancel_left _ (by decide)]; exact h2⟩
        · rw [hs, if_neg (by lia), Nat.mul_div_cancel_left _ (by decide)]; exact h3
      · rintro ⟨r, h1, h2, h3⟩
        rw [List.length_cons, Nat.pow_succ] at h1
        rw [and_rec] at h2
        have hr : ¬ r % 2 = 1 := fun q => hc (h2.1 q)
        rw [hs, if_neg hr] at h3
        exact ⟨r / 2, by lia, h2.2, h3⟩
theorem hs_len : ∀ (xs : List Nat) (c : Nat), (hs xs c).length ≤ xs.length
  | [], c => Nat.le_refl _
  | x :: xs, c => by
    have := hs_len xs (c / 2)
    rw [hs]
    split <;> simp <;> lia
theorem hs_mem : ∀ (xs : List Nat) (c : Nat), ∀ y ∈ hs xs c, y ∈ xs
  | x :: xs, c, y, hy => by
    rw [hs] at hy
    split at hy
    · rcases List.mem_cons.mp hy with rfl | h
      · exact .head _
      · exact .tail _ (hs_mem xs _ y h)
    · exact .tail _ (hs_mem xs _ y hy)
end Mine
namespace Mine
variable {G : Stat}
theorem compGo_all {t : MV → MH → (Bool → MH → Prop) → Prop} {f : MV → MH → (MV → MH → Prop) → Prop} {K : List MV → MH → Prop} (p : MV → Bool) (g : MV → MV) {H : MH} : ∀ (xs acc : List MV),
    (∀ x ∈ xs, ∀ K' : Bool → MH → Prop, K' (p x) H → t x H K') → (∀ x ∈ xs, p x = true → ∀ K' : MV → MH → Prop, K' (g x) H → f x H K') → K (acc ++ (xs.filter p).map g) H → compGo t f K xs acc H
  | [], acc, h1, h2, h3 => by simpa [compGo] using h3
  | x :: xs, acc, h1, h2, h3 => by
    rw [compGo]
    refine h1 x (.head _) _ ?_
    cases hp : p x with
    | true =>
      refine h2 x (.head _) hp _ ?_
      refine compGo_all p g xs _ (fun y hy => h1 y (.tail _ hy)) (fun y hy => h2 y (.tail _ hy)) ?_
      rw [List.filter_cons, hp] at h3
      simpa using h3
    | false =>
      refine compGo_all p g xs _ (fun y hy => h1 y (.tail _ hy)) (fun y hy => h2 y (.tail _ hy)) ?_
      rw [List.filter_cons, hp] at h3
      simpa using h3
theorem compGo_map {t : MV → MH → (Bool → MH → Prop) → Prop} {f : MV → MH → (MV → MH → Prop) → Prop} {K : List MV → MH → Prop} (g : MV → MV) {H : MH} {xs : List MV}
    (h1 : ∀ x ∈ xs, ∀ K' : Bool → MH → Prop, K' true H → t x H K') (h2 : ∀ x ∈ xs, ∀ K' : MV → MH → Prop, K' (g x) H → f x H K') (h3 : K (xs.map g) H) : compGo t f K xs [] H := by
  refine compGo_all (fun _ => true) g xs [] h1 (fun x hx _ => h2 x hx) ?_
  rw [List.filter_eq_self.mpr fun _ _ => rfl]
  exact h3
abbrev mtxs (l : List (List Nat)) : List MV := l.map fun t => MV.str (tx t)
noncomputable def signOf (x : Int) : Nat := if x.fmod 3 = 0 then 97 else if x.fmod 3 = 1 then 98 else 65
noncomputable def heldF (ss : List Nat) : List (List Nat) := ss.foldl (fun h x => h ++ h.map (· ++ [x])) [[]]
theorem heldF_snoc (ss : List Nat) (x : Nat) : heldF (ss ++ [x]) = heldF ss ++ (heldF ss).map (· ++ [x]) := by
  unfold heldF; rw [List.foldl_append]; rfl
theorem heldF_len (ss : List Nat) : (heldF ss).length = 2 ^ ss.length := by
  suffices h : ∀ (ss : List Nat) (h : List (List Nat)), (ss.foldl (fun h x => h ++ h.map (· ++ [x])) h).length = h.length * 2 ^ ss.length by
    have := h ss [[]]; simpa [heldF] using this
  intro ss
  induction ss with
  | nil => intro h; simp
  | cons a r ih => intro h; rw [List.foldl_cons, ih, List.length_append, List.length_map, List.length_cons, Nat.pow_succ, ← Nat.two_mul]; rw [Nat.mul_comm 2, Nat.mul_assoc, Nat.mul_comm 2]
theorem heldF_mem (ss : List Nat) : ∀ t ∈ heldF ss, t.length ≤ ss.length := by
  suffices h : ∀ (ss : List Nat) (h : List (List Nat)) (n : Nat), (∀ t ∈ h, t.length ≤ n) → ∀ t ∈ (ss.foldl (fun h x => h ++ h.map (· ++ [x])) h), t.length ≤ n + ss.length by
    have := h ss [[]] 0 (by simp)
    intro t ht; have := this t ht; lia
  intro ss
  induction ss with
  | nil => intro h n hh t ht; exact hh t ht
  | cons a r ih =>
    intro h n hh t ht
    rw [List.foldl_cons] at ht
    have := ih _ (n + 1) (fun t ht => by
      rcases List.mem_append.mp ht with q | q
      · have := hh t q; lia
      · obtain ⟨u, hu, rfl⟩ := List.mem_map.mp q
        have := hh u hu; simp; lia) t ht
    rw [List.length_cons]; lia
theorem sign_place (x : Int) : ∃ n, place (Str.ofString "abA").cps.size (x.fmod 3) = some n ∧ (Str.ofString "abA").cps[n]? = some (signOf x) ∧ intOk (x.fmod 3) := by
  have h0 : 0 ≤ x.fmod 3 := Int.fmod_nonneg_of_pos x (by decide)
  have h1 : x.fmod 3 < 3 := Int.fmod_lt_of_pos x (by decide)
  unfold signOf
  have hs : (Str.ofString "abA").cps = #[97, 98, 65] := by decide +kernel
  rw [hs]
  have hc : x.fmod 3 = 0 ∨ x.fmod 3 = 1 ∨ x.fmod 3 = 2 := by lia
  rcases hc with h | h | h <;> rw [h]
  · exact ⟨0, by decide, by decide, by unfold intOk; lia⟩
  · exact ⟨1, by decide, by decide, by unfold intOk; lia⟩
  · exact ⟨2, by decide, by decide, by unfold intOk; lia⟩
theorem tx_append (a b : List Nat) : tx a ++ tx b = tx (a ++ b) := by
  show Str.append _ _ = _
  unfold Str.append; simp
theorem tx_len (a : List Nat) : (tx a).length = a.length := rfl
theorem c_held (S : SetOk G) {d : Nat} {nums : List Int} {H : MH} {Q : MV → MH → Prop} (hn : nums.length ≤ 5) (hq : Q (.list (mtxs (heldF (nums.map signOf)))) H) : Calls G (d + 1) (.fn 105) [.list (nums.map .int)] [] H Q := by
  refine calls_fn S.st S.f__law_held.fn (bd__law_held S _) ?_
  have e : l0 mw [("numbers", .list (nums.map .int))] = [some (.list (nums.map .int)), none, none] := rfl
  rw [e, pq, b204]
  simp only [b205,ay,di,dk,dl,ad,az,b0,ba,bb,ae,bc,bd,bg,bh,bj,bk,af,bl,ag,bn,bp,br,bs,bt,ah,ai,bv,aj,bw,ab,ak,bx,bz,al,c6,am,dn,dp,dq,dr,c7,du,dw,dx,dy,dz,ao,ap,c8,c9,ce,aq,au,aa,cf,cj,ck,cm,co,cq,cu,av,cw,cx,cy,cz,aw,d8,d9,a9,a8,e9,ee,ew,f0,f8,f9,fb,fe,ff,fg,fh,fi,fj,fk,fo,fq,fs,ft,fu,fw,fx,da,fy,db,g0,ge,gf,gg,gh,gi,gj,gk,gl,gm,gn,gp,gq,gs,gt,gu,gv,gw,gx,gy,gz,i0,i4,i5,i6,i8,i9,ia,dc,ax,ie,ig,ii,de,dg,ij,ik,il,im,ip,iq,ir,iu,iv,iw,iy,j0,j3,j4,j5,j6,dh,j7,j8,j9,ja,jb,su,sv,sw]
  refine ⟨by simp, by rw [List.length_map]; lia, ?_⟩
  refine forGo_ch (fun k T => ∀ x, T [some (.list (nums.map .int)), some (.list (mtxs (heldF ((nums.map signOf).take k)))), x] H) (fun T h => h none) (fun x => ?_) fun k y hx N' hN x2 => ?_
  · simp only [b207,ay,di,dk,dl,ad,az,b0,ba,bb,ae,bc,bd,bg,bh,bj,bk,af,bl,ag,bn,bp,br,bs,bt,ah,ai,bv,aj,bw,ab,ak,bx,bz,al,c6,am,dn,dp,dq,dr,c7,du,dw,dx,dy,dz,ao,ap,c8,c9,ce,aq,au,aa,cf,cj,ck,cm,co,cq,cu,av,cw,cx,cy,cz,aw,d8,d9,a9,a8,e9,ee,ew,f0,f8,f9,fb,fe,ff,fg,fh,fi,fj,fk,fo,fq,fs,ft,fu,fw,fx,da,fy,db,g0,ge,gf,gg,gh,gi,gj,gk,gl,gm,gn,gp,gq,gs,gt,gu,gv,gw,gx,gy,gz,i0,i4,i5,i6,i8,i9,ia,dc,ax,ie,ig,ii,de,dg,ij,ik,il,im,ip,iq,ir,iu,iv,iw,iy,j0,j3,j4,j5,j6,dh,j7,j8,j9,ja,jb]
    refine ⟨_, .refl _, ?_⟩
    rw [List.take_of_length_le (by rw [List.length_map]; exact Nat.le_refl _)]
    exact hq
  · obtain ⟨hkl, rfl⟩ := List.getElem?_eq_some_iff.mp hx
    have htk : (nums.map signOf).take (k + 1) = (nums.map signOf).take k ++ [signOf nums[k]] := by
      rw [List.take_add_one, List.getElem?_map, List.getElem?_eq_getElem hkl]; rfl
    have hlen : (mtxs (heldF ((nums.map signOf).take k))).length ≤ 32 := by
      rw [List.length_map, heldF_len, List.length_take, List.length_map]
      have : min k nums.length ≤ 5 := by lia
      exact Nat.pow_le_pow_right (n := 2) (by decide) this
    simp only [b206,ay,di,dk,dl,ad,az,b0,ba,bb,ae,bc,bd,bg,bh,bj,bk,af,bl,ag,bn,bp,br,bs,bt,ah,ai,bv,aj,bw,ab,ak,bx,bz,al,c6,am,dn,dp,dq,dr,c7,du,dw,dx,dy,dz,ao,ap,c8,c9,ce,aq,au,aa,cf,cj,ck,cm,co,cq,cu,av,cw,cx,cy,cz,aw,d8,d9,a9,a8,e9,ee,ew,f0,f8,f9,fb,fe,ff,fg,fh,fi,fj,fk,fo,fq,fs,ft,fu,fw,fx,da,fy,db,g0,ge,gf,gg,gh,gi,gj,gk,gl,gm,gn,gp,gq,gs,gt,gu,gv,gw,gx,gy,gz,i0,i4,i5,i6,i8,i9,ia,dc,ax,ie,ig,ii,de,dg,ij,ik,il,im,ip,iq,ir,iu,iv,iw,iy,j0,j3,j4,j5,j6,dh,j7,j8,j9,ja,jb,su,sv,sw,cc_210,cc_211,cc_213,cc_221,cc_229,cc_243,cc_253,cc_265,cc_266,cc_268,cc_271,cc_282,cc_299,cc_302,List.map_cons,List.map_nil,Option.getD_some]
    refine ⟨by lia, by lia, ?_⟩
    obtain ⟨n, p1, p2, p3⟩ := sign_place nums[k]
    refine compGo_map (fun v => match v with | .str t => .str (t ++ sg (signOf nums[k])) | v => v) ?_ ?_ ?_
    · exact fun x hx K' h => h
    · intro x hx K' h
      obtain ⟨t, ht, rfl⟩ := List.mem_map.mp hx
      refine ⟨by decide, ?_⟩
      rw [ly p1 p2]
      refine ⟨p3, ?_⟩
      simp only [ay,di,dk,dl,ad,az,b0,ba,bb,ae,bc,bd,bg,bh,bj,bk,af,bl,ag,bn,bp,br,bs,bt,ah,ai,bv,aj,bw,ab,ak,bx,bz,al,c6,am,dn,dp,dq,dr,c7,du,dw,dx,dy,dz,ao,ap,c8,c9,ce,aq,au,aa,cf,cj,ck,cm,co,cq,cu,av,cw,cx,cy,cz,aw,d8,d9,a9,a8,e9,ee,ew,f0,f8,f9,fb,fe,ff,fg,fh,fi,fj,fk,fo,fq,fs,ft,fu,fw,fx,da,fy,db,g0,ge,gf,gg,gh,gi,gj,gk,gl,gm,gn,gp,gq,gs,gt,gu,gv,gw,gx,gy,gz,i0,i4,i5,i6,i8,i9,ia,dc,ax,ie,ig,ii,de,dg,ij,ik,il,im,ip,iq,ir,iu,iv,iw,iy,j0,j3,j4,j5,j6,dh,j7,j8,j9,ja,jb]
      refine ⟨?_, h⟩
      have := heldF_mem _ t ht
      rw [List.length_take, List.length_map] at this
      simp only [Str.length]
      show t.toArray.size + 1 ≤ _
      simp; lia
    · refine ⟨by simp only [List.length_map] at hlen ⊢; lia, ?_⟩
      have hnn := hN (some (.int nums[k]))
      rw [htk, heldF_snoc] at hnn
      have : (mtxs (heldF ((nums.map signOf).take k))).map (fun v => match v with | .str t => .str (t ++ sg (signOf nums[k])) | v => v) = mtxs ((heldF ((nums.map signOf).take k)).map (· ++ [signOf nums[k]])) := by
        unfold mtxs; rw [List.map_map, List.map_map]
        refine List.map_congr_left fun t _ => ?_
        show MV.str (tx t ++ tx [_]) = _
        rw [tx_append]; rfl
      rw [this]
      unfold mtxs at hnn ⊢; rw [List.map_append] at hnn; exact hnn
noncomputable def stepsF (w : Nat) : Nat → List Nat
  | 0 => [1]
  | k + 1 => stepsF w k ++ (stepsF w k).map fun s => s * (2 ^ (w * 2 ^ k) + 1)
theorem stepsF_len (w : Nat) : ∀ k, (stepsF w k).length = 2 ^ k
  | 0 => rfl
  | k + 1 => by rw [stepsF, List.length_append, List.length_map, stepsF_len w k, Nat.pow_succ]; lia
theorem stepsF_lt {w : Nat} (hw : 1 ≤ w) : ∀ k, ∀ s ∈ stepsF w k, s < 2 ^ (w * 2 ^ k)
  | 0, s, hs => by
    have : s = 1 := by simpa [stepsF] using hs
    subst this
    exact Nat.one_lt_two_pow (by lia)
  | k + 1, s, hs => by
    have e : 2 ^ (w * 2 ^ (k + 1)) = 2 ^ (w * 2 ^ k) * 2 ^ (w * 2 ^ k) := by rw [← Nat.pow_add, ← Nat.mul_add, Nat.pow_succ]; congr 2; lia
    rw [stepsF] at hs
    rw [e]
    have hp : 0 < 2 ^ (w * 2 ^ k) := Nat.pow_pos (by decide)
    rcases List.mem_append.mp hs with q | q
    · exact Nat.lt_of_lt_of_le (stepsF_lt hw k s q) (Nat.le_mul_of_pos_left _ hp)
    · obtain ⟨u, hu, rfl⟩ := List.mem_map.mp q
      have h1 := stepsF_lt hw k u hu
      have h2 : (u + 1) * 2 ^ (w * 2 ^ k) ≤ 2 ^ (w * 2 ^ k) * 2 ^ (w * 2 ^ k) := Nat.mul_le_mul_right _ h1
      rw [Nat.add_mul, Nat.one_mul] at h2
      rw [Nat.mul_add, Nat.mul_one]; lia
theorem c_steps (S : SetOk G) {d w : Nat} {H : MH} {Q : MV → MH → Prop} (hw1 : 1 ≤ w) (hw : w ≤ 600) (hq : Q (.list (mints (stepsF w 5))) H) : Calls G (d + 1) (.fn 110) [.int w] [] H Q := by
  refine calls_fn S.st S.f__law_steps.fn (bd__law_steps S _) ?_
  have e : l0 mx [("width", .int w)] = [some (.int w), none, none] := rfl
  rw [e, pr, b209]
  simp only [b210,ay,di,dk,dl,ad,az,b0,ba,bb,ae,bc,bd,bg,bh,bj,bk,af,bl,ag,bn,bp,br,bs,bt,ah,ai,bv,aj,bw,ab,ak,bx,bz,al,c6,am,dn,dp,dq,dr,c7,du,dw,dx,dy,dz,ao,ap,c8,c9,ce,aq,au,aa,cf,cj,ck,cm,co,cq,cu,av,cw,cx,cy,cz,aw,d8,d9,a9,a8,e9,ee,ew,f0,f8,f9,fb,fe,ff,fg,fh,fi,fj,fk,fo,fq,fs,ft,fu,fw,fx,da,fy,db,g0,ge,gf,gg,gh,gi,gj,gk,gl,gm,gn,gp,gq,gs,gt,gu,gv,gw,gx,gy,gz,i0,i4,i5,i6,i8,i9,ia,dc,ax,ie,ig,ii,de,dg,ij,ik,il,im,ip,iq,ir,iu,iv,iw,iy,j0,j3,j4,j5,j6,dh,j7,j8,j9,ja,jb,sx,sy,sz]
  refine ⟨by simp, by unfold intOk; lia, ?_⟩
  have er : rangeL 0 5 1 = (List.range 5).map fun (k : Nat) => MV.int (k : Int) := rangeL_nat 5
  rw [er]
  refine forGo_rng (fun k T => ∀ x, T [some (.int w), some (.list (mints (stepsF w k))), x] H) (fun T h => h none) (fun x => ?_) fun k hkl N' hN x2 => ?_
  · simp only [b212,ay,di,dk,dl,ad,az,b0,ba,bb,ae,bc,bd,bg,bh,bj,bk,af,bl,ag,bn,bp,br,bs,bt,ah,ai,bv,aj,bw,ab,ak,bx,bz,al,c6,am,dn,dp,dq,dr,c7,du,dw,dx,dy,dz,ao,ap,c8,c9,ce,aq,au,aa,cf,cj,ck,cm,co,cq,cu,av,cw,cx,cy,cz,aw,d8,d9,a9,a8,e9,ee,ew,f0,f8,f9,fb,fe,ff,fg,fh,fi,fj,fk,fo,fq,fs,ft,fu,fw,fx,da,fy,db,g0,ge,gf,gg,gh,gi,gj,gk,gl,gm,gn,gp,gq,gs,gt,gu,gv,gw,gx,gy,gz,i0,i4,i5,i6,i8,i9,ia,dc,ax,ie,ig,ii,de,dg,ij,ik,il,im,ip,iq,ir,iu,iv,iw,iy,j0,j3,j4,j5,j6,dh,j7,j8,j9,ja,jb]
    exact ⟨_, .refl _, hq⟩
  · have h2k : 2 ^ k ≤ 16 := Nat.pow_le_pow_right (n := 2) (by decide) (show k ≤ 4 by lia)
    have hlen : (mints (stepsF w k)).length ≤ 32 := by
      rw [List.length_map, stepsF_len]; lia
    have hwk : w * 2 ^ k ≤ 9600 := Nat.mul_le_mul hw h2k
    have hle := stepsF_lt hw1 k
    have hnn := hN (some (.int k))
    rw [stepsF] at hnn
    have ep : (2 : Int) ^ ((k : Int)).toNat = ((2 ^ k : Nat) : Int) := by rw [toNat_nat, pow_cast]
    simp only [b211,ay,di,dk,dl,ad,az,b0,ba,bb,ae,bc,bd,bg,bh,bj,bk,af,bl,ag,bn,bp,br,bs,bt,ah,ai,bv,aj,bw,ab,ak,bx,bz,al,c6,am,dn,dp,dq,dr,c7,du,dw,dx,dy,dz,ao,ap,c8,c9,ce,aq,au,aa,cf,cj,ck,cm,co,cq,cu,av,cw,cx,cy,cz,aw,d8,d9,a9,a8,e9,ee,ew,f0,f8,f9,fb,fe,ff,fg,fh,fi,fj,fk,fo,fq,fs,ft,fu,fw,fx,da,fy,db,g0,ge,gf,gg,gh,gi,gj,gk,gl,gm,gn,gp,gq,gs,gt,gu,gv,gw,gx,gy,gz,i0,i4,i5,i6,i8,i9,ia,dc,ax,ie,ig,ii,de,dg,ij,ik,il,im,ip,iq,ir,iu,iv,iw,iy,j0,j3,j4,j5,j6,dh,j7,j8,j9,ja,jb,sx,sy,sz,cc_210,cc_211,cc_213,cc_221,cc_229,cc_243,cc_253,cc_265,cc_266,cc_268,cc_271,cc_282,cc_299,cc_302,List.map_cons,List.map_nil,Option.getD_some,ep]
    generalize hK : 2 ^ k = K at *
    refine ⟨by lia, by lia, ?_⟩
    refine compGo_map (fun v => match v with | .int s => .int (s * ((2 ^ (w * K) + 1 : Nat) : Int)) | v => v) ?_ ?_ ?_
    · exact fun x hx K' h => h
    · intro x hx K' h
      obtain ⟨s, hs, rfl⟩ := List.mem_map.mp hx
      have h1 := hle s hs
      simp only [ay,di,dk,dl,ad,az,b0,ba,bb,ae,bc,bd,bg,bh,bj,bk,af,bl,ag,bn,bp,br,bs,bt,ah,ai,bv,aj,bw,ab,ak,bx,bz,al,c6,am,dn,dp,dq,dr,c7,du,dw,dx,dy,dz,ao,ap,c8,c9,ce,aq,au,aa,cf,cj,ck,cm,co,cq,cu,av,cw,cx,cy,cz,aw,d8,d9,a9,a8,e9,ee,ew,f0,f8,f9,fb,fe,ff,fg,fh,fi,fj,fk,fo,fq,fs,ft,fu,fw,fx,da,fy,db,g0,ge,gf,gg,gh,gi,gj,gk,gl,gm,gn,gp,gq,gs,gt,gu,gv,gw,gx,gy,gz,i0,i4,i5,i6,i8,i9,ia,dc,ax,ie,ig,ii,de,dg,ij,ik,il,im,ip,iq,ir,iu,iv,iw,iy,j0,j3,j4,j5,j6,dh,j7,j8,j9,ja,jb,ep]
      have em : (w : Int) * (K : Int) = ((w * K : Nat) : Int) := by push_cast; rfl
      refine ⟨by lia, small_mul (by lia) (by lia), ⟨by lia, by rw [em]; lia⟩, ?_⟩
      rw [em, toNat_nat, pow_cast]
      have ea : ((2 ^ (w * K) : Nat) : Int) + 1 = ((2 ^ (w * K) + 1 : Nat) : Int) := by push_cast; rfl
      rw [ea]
      refine ⟨?_, h⟩
      have b1 := bits_le h1
      have b2 := bits_le (n := 2 ^ (w * K) + 1) (k := w * K + 1) (by rw [Nat.pow_succ]; have := Nat.one_lt_two_pow (n := w * K) (by have := Nat.pow_pos (n := k) (show 0 < 2 by decide); rw [hK] at this; exact Nat.pos_iff_ne_zero.mp (Nat.mul_pos (by lia) this)); lia)
      lia
    · refine ⟨by simp only [List.length_map] at hlen ⊢; lia, ?_⟩
      have : (mints (stepsF w k)).map (fun v => match v with | .int s => .int (s * ((2 ^ (w * K) + 1 : Nat) : Int)) | v => v) = mints ((stepsF w k).map fun s => s * (2 ^ (w * K) + 1)) := by
        unfold mints; rw [List.map_map, List.map_map]
        refine List.map_congr_left fun t _ => ?_
        show MV.int _ = MV.int _
        congr 1
      rw [this]
      unfold mints at hnn ⊢
      rw [List.map_append] at hnn
      exact hnn
end Mine
namespace Mine
variable {G : Stat}
noncomputable def letters : List Nat := [97, 98, 65]
noncomputable def allWords : List (List Nat) := letters.flatMap fun a => [a] :: letters.flatMap fun b => [a, b] :: letters.map fun c => [a, b, c]
noncomputable def partsOf (cs : List Nat) : List Str := [sg (cs.headD 0)] ++ cs.map sg ++ [sg (cs.getLastD 0)]
noncomputable def okWord (cs : List Nat) : Bool := JoinOk "..." (partsOf cs) && Txt.contains (Txt.join "..." (partsOf cs)) "..." && (Txt.split (Txt.join "..." (partsOf cs)) "..." == partsOf cs) && decide ((Txt.join "..." (partsOf cs)).length ≤ 64) && !Txt.contains (tx cs) "..."
theorem okWords : ∀ cs ∈ allWords, okWord cs = true := by decide +kernel
theorem words_len : ∀ cs ∈ allWords, 1 ≤ cs.length ∧ cs.length ≤ 3 := by decide +kernel
theorem ell_greedy {got : Str} {e : Nat} (he : e ≤ got.length) : ∀ (cs : List Nat) (p : Nat), p ≤ e → ellLoop got (cs.map sg) p e = greedy got.cps.toList cs p e
  | [], p, hp => rfl
  | c :: cs, p, hp => by
    rw [List.map_cons, ellLoop, greedy, occ1 got c p e he hp]
    cases ho : nextAt got.cps.toList c p (e - p) with
    | nil => rfl
    | cons k r =>
      have := nextAt_le _ _ _ _ ho
      exact ell_greedy he cs (k + 1) (by lia)
theorem ell_word {c0 cl : Nat} {cs h : List Nat} : ellRes (sg c0) (cs.map sg) (sg cl) (tx ([c0] ++ h ++ [cl])) = cs.isSublist h := by
  unfold ellRes Txt.startswith Txt.endswith
  have hlen : (tx ([c0] ++ h ++ [cl])).length = h.length + 2 := by rw [tx_len]; simp
  have l0 : (sg c0).length = 1 := rfl
  have l1 : (sg cl).length = 1 := rfl
  have s1 := (StrLaws.subAt_one (tx ([c0] ++ h ++ [cl])) c0 0).mpr (by simp)
  have s2 := (StrLaws.subAt_one (tx ([c0] ++ h ++ [cl])) cl (h.length + 1)).mpr (by simp)
  rw [hlen, l0] at s1
  rw [hlen, l1] at s2
  rw [hlen, l0, l1, show h.length + 2 - 1 = h.length + 1 by lia, s1.2, s2.2, decide_eq_true (by lia), decide_eq_true (by lia)]
  simp only [Bool.true_and]
  rw [ell_greedy (by rw [hlen]; lia) _ _ (by lia), greedy_sub (by simp) cs h.length 1 (by lia)]
  simp
theorem place_last {n : Nat} (h : 0 < n) : place n (-1) = some (n - 1) := place_neg (n := n) (i := 0) h
theorem c_ask (S : SetOk G) {d : Nat} {cs h : List Nat} {hl : List (List Nat)} {a : Addr} {xs : List MV} {i : Nat} {H0 : MH} {Q : MV → MH → Prop} (hcs : cs ∈ allWords) (ha : a ∉ keys H0) (hx : xs.length ≤ 2 ^ 10) (hi : hl[i]? = some h) (hil : hl.length ≤ 2 ^ 10)
    (hh : h.length ≤ 2 ^ 10) (hq : Q (.bool (cs.isSublist h)) ((a, xs ++ [.int i]) :: H0)) : Calls G (d + 2) (.fn 122) [.str (tx cs), .list (mtxs hl), .ref a, .int i] [] ((a, xs) :: H0) Q := by
  refine calls_fn S.st S.f__law_ask.fn (bd__law_ask S _ _ _ _) ?_
  have e : l0 mq [("word", .str (tx cs)), ("held", .list (mtxs hl)), ("asked", .ref a), ("choice", .int i)] = [some (.str (tx cs)), some (.list (mtxs hl)), some (.ref a), some (.int i)] := rfl
  rw [e, px, b223]
  have hok := okWords cs hcs
  obtain ⟨hl1, hl2⟩ := words_len cs hcs
  unfold okWord at hok
  simp only [Bool.and_eq_true, beq_iff_eq] at hok
  obtain ⟨⟨⟨⟨ok1, ok2⟩, ok3⟩, ok4⟩, ok5⟩ := hok
  have ok4' := of_decide_eq_true ok4
  simp only [ay,di,dk,dl,ad,az,b0,ba,bb,ae,bc,bd,bg,bh,bj,bk,af,bl,ag,bn,bp,br,bs,bt,ah,ai,bv,aj,bw,ab,ak,bx,bz,al,c6,am,dn,dp,dq,dr,c7,du,dw,dx,dy,dz,ao,ap,c8,c9,ce,aq,au,aa,cf,cj,ck,cm,co,cq,cu,av,cw,cx,cy,cz,aw,d8,d9,a9,a8,e9,ee,ew,f0,f8,f9,fb,fe,ff,fg,fh,fi,fj,fk,fo,fq,fs,ft,fu,fw,fx,da,fy,db,g0,ge,gf,gg,gh,gi,gj,gk,gl,gm,gn,gp,gq,gs,gt,gu,gv,gw,gx,gy,gz,i0,i4,i5,i6,i8,i9,ia,dc,ax,ie,ig,ii,de,dg,ij,ik,il,im,ip,iq,ir,iu,iv,iw,iy,j0,j3,j4,j5,j6,dh,j7,j8,j9,ja,jb]
  refine ⟨by rw [h_look]; rfl, ?_⟩
  rw [qv h_look, h_set ha]
  refine ⟨by lia, rfl, ?_⟩
  obtain ⟨c0, cr, rfl⟩ : ∃ c0 cr, cs = c0 :: cr := by
    cases cs with
    | nil => simp at hl1
    | cons c r => exact ⟨c, r, rfl⟩
  have hz : (tx (c0 :: cr)).cps[0]? = some c0 := by simp
  have hsz : (tx (c0 :: cr)).cps.size = (c0 :: cr).length := by simp
  have hlast : (tx (c0 :: cr)).cps[(tx (c0 :: cr)).cps.size - 1]? = some ((c0 :: cr).getLastD 0) := by
    rw [hsz]
    show (c0 :: cr).toArray[_]? = _
    rw [List.getElem?_toArray, ← List.getLast?_eq_getElem?, List.getLastD_eq_getLast?, List.getLast?_eq_some_getLast (by simp)]
    rfl
  simp only [b224,ay,di,dk,dl,ad,az,b0,ba,bb,ae,bc,bd,bg,bh,bj,bk,af,bl,ag,bn,bp,br,bs,bt,ah,ai,bv,aj,bw,ab,ak,bx,bz,al,c6,am,dn,dp,dq,dr,c7,du,dw,dx,dy,dz,ao,ap,c8,c9,ce,aq,au,aa,cf,cj,ck,cm,co,cq,cu,av,cw,cx,cy,cz,aw,d8,d9,a9,a8,e9,ee,ew,f0,f8,f9,fb,fe,ff,fg,fh,fi,fj,fk,fo,fq,fs,ft,fu,fw,fx,da,fy,db,g0,ge,gf,gg,gh,gi,gj,gk,gl,gm,gn,gp,gq,gs,gt,gu,gv,gw,gx,gy,gz,i0,i4,i5,i6,i8,i9,ia,dc,ax,ie,ig,ii,de,dg,ij,ik,il,im,ip,iq,ir,iu,iv,iw,iy,j0,j3,j4,j5,j6,dh,j7,j8,j9,ja,jb]
  refine ⟨S.f__ellipsis_match.glob, ?_⟩
  rw [ly (place_zero (by rw [hsz]; simp)) hz]
  refine ⟨by unfold intOk; lia, by simp, ?_⟩
  have hsg : signs (tx (c0 :: cr)) = (c0 :: cr).map fun c => MV.str (sg c) := by
    unfold signs; simp
  rw [hsg]
  simp only [ay,di,dk,dl,ad,az,b0,ba,bb,ae,bc,bd,bg,bh,bj,bk,af,bl,ag,bn,bp,br,bs,bt,ah,ai,bv,aj,bw,ab,ak,bx,bz,al,c6,am,dn,dp,dq,dr,c7,du,dw,dx,dy,dz,ao,ap,c8,c9,ce,aq,au,aa,cf,cj,ck,cm,co,cq,cu,av,cw,cx,cy,cz,aw,d8,d9,a9,a8,e9,ee,ew,f0,f8,f9,fb,fe,ff,fg,fh,fi,fj,fk,fo,fq,fs,ft,fu,fw,fx,da,fy,db,g0,ge,gf,gg,gh,gi,gj,gk,gl,gm,gn,gp,gq,gs,gt,gu,gv,gw,gx,gy,gz,i0,i4,i5,i6,i8,i9,ia,dc,ax,ie,ig,ii,de,dg,ij,ik,il,im,ip,iq,ir,iu,iv,iw,iy,j0,j3,j4,j5,j6,dh,j7,j8,j9,ja,jb,tx_len,List.length_map]
  refine ⟨by lia, by lia, by simp at hl2 ⊢; lia, ?_⟩
  rw [ly (place_last (by rw [hsz]; simp)) hlast]
  refine ⟨by unfold intOk; lia, by simp, ?_⟩
  refine ⟨by simp at hl2 ⊢; lia, ?_⟩
  have hp : [MV.str (sg c0)] ++ List.map (fun c => MV.str (sg c)) (c0 :: cr) ++ [MV.str (sg ((c0 :: cr).getLastD 0))] = (partsOf (c0 :: cr)).map .str := by
    unfold partsOf; simp
  rw [hp, ww (allStr_map _)]
  refine ⟨ok1, ?_⟩
  rw [ly (place_zero (by rw [hsz]; simp)) hz]
  refine ⟨by unfold intOk; lia, ?_⟩
  have hg : (mtxs hl)[i]? = some (.str (tx h)) := by rw [List.getElem?_map, hi]; rfl
  have hil2 := (List.getElem?_eq_some_iff.mp hi).1
  rw [kh (place_nat (by rw [List.length_map]; exact hil2)) hg]
  refine ⟨intOk_nat (by lia), ?_⟩
  simp only [ay,di,dk,dl,ad,az,b0,ba,bb,ae,bc,bd,bg,bh,bj,bk,af,bl,ag,bn,bp,br,bs,bt,ah,ai,bv,aj,bw,ab,ak,bx,bz,al,c6,am,dn,dp,dq,dr,c7,du,dw,dx,dy,dz,ao,ap,c8,c9,ce,aq,au,aa,cf,cj,ck,cm,co,cq,cu,av,cw,cx,cy,cz,aw,d8,d9,a9,a8,e9,ee,ew,f0,f8,f9,fb,fe,ff,fg,fh,fi,fj,fk,fo,fq,fs,ft,fu,fw,fx,da,fy,db,g0,ge,gf,gg,gh,gi,gj,gk,gl,gm,gn,gp,gq,gs,gt,gu,gv,gw,gx,gy,gz,i0,i4,i5,i6,i8,i9,ia,dc,ax,ie,ig,ii,de,dg,ij,ik,il,im,ip,iq,ir,iu,iv,iw,iy,j0,j3,j4,j5,j6,dh,j7,j8,j9,ja,jb]
  refine ⟨by simp only [Str.length]; simp; lia, ?_⟩
  rw [ly (place_last (by rw [hsz]; simp)) hlast]
  refine ⟨by unfold intOk; lia, ?_⟩
  simp only [ay,di,dk,dl,ad,az,b0,ba,bb,ae,bc,bd,bg,bh,bj,bk,af,bl,ag,bn,bp,br,bs,bt,ah,ai,bv,aj,bw,ab,ak,bx,bz,al,c6,am,dn,dp,dq,dr,c7,du,dw,dx,dy,dz,ao,ap,c8,c9,ce,aq,au,aa,cf,cj,ck,cm,co,cq,cu,av,cw,cx,cy,cz,aw,d8,d9,a9,a8,e9,ee,ew,f0,f8,f9,fb,fe,ff,fg,fh,fi,fj,fk,fo,fq,fs,ft,fu,fw,fx,da,fy,db,g0,ge,gf,gg,gh,gi,gj,gk,gl,gm,gn,gp,gq,gs,gt,gu,gv,gw,gx,gy,gz,i0,i4,i5,i6,i8,i9,ia,dc,ax,ie,ig,ii,de,dg,ij,ik,il,im,ip,iq,ir,iu,iv,iw,iy,j0,j3,j4,j5,j6,dh,j7,j8,j9,ja,jb]
  have hgot : sg c0 ++ tx h ++ sg ((c0 :: cr).getLastD 0) = tx ([c0] ++ h ++ [(c0 :: cr).getLastD 0]) := by
    show tx [c0] ++ tx h ++ tx [_] = _
    rw [tx_append, tx_append]
  have hgl : (sg c0 ++ tx h).length = h.length + 1 := by
    show (tx [c0] ++ tx h).length = _
    rw [tx_append, tx_len]; simp
  refine ⟨by rw [hgl]; show h.length + 1 + 1 ≤ _; lia, ?_⟩
  rw [hgot]
  refine c_ell S (w0 := sg c0) (wl := sg ((c0 :: cr).getLastD 0)) (mid := (c0 :: cr).map sg) ok2 (by rw [ok3]; rfl) (fun q => Nat.one_ne_zero q) (fun q => Nat.one_ne_zero q) (by lia) (by rw [tx_len]; simp; lia) (fun w hw => ?_) (by simp at hl2 ⊢; lia) ?_
  · have : w.length = 1 := by
      rcases List.mem_cons.mp hw with rfl | hw
      · rfl
      · rcases List.mem_append.mp hw with hw | hw
        · obtain ⟨c, _, rfl⟩ := List.mem_map.mp hw; rfl
        · rw [List.mem_singleton.mp hw]; rfl
    lia
  · rw [ell_word]
    exact ⟨_, .refl _, hq⟩
end Mine
namespace Mine
variable {G : Stat}
abbrev Stat.bare (G : Stat) : Stat := { G with tabs := [] }
theorem bare_st (S : SetOk G) : StatOk G.bare :=
  ⟨S.st.ns, S.st.nb, S.st.nolimit, S.st.bi, S.st.tlist, S.st.trange, S.st.trev, S.st.tsort, S.st.bat, fun t m => (by cases m), .nil⟩
theorem bare_inv {h : Heap} (i : Inv0 G h) : Inv G.bare [] [] h :=
  ⟨i, fun a o _ m => (by cases m), fun t m => (by cases m), fun a m => (by cases m), fun a m => (by cases m), .nil, fun a xs m => (by cases m), fun a m => (by cases m)⟩
theorem bare_clo (S : SetOk G) : G.bare.clo = theClos := S.clo
theorem bare_gc (S : SetOk G) : GClo G.bare 2 pg := by
  have e : G.bare.clo 2 = clo_2 := by rw [bare_clo S]; rfl
  refine ⟨by rw [e]; kernel_rfl, by rw [e]; rfl, rfl, by kernel_rfl, by rw [e]; kernel_rfl, by rw [e]; kernel_rfl, fun x hx => ?_, by rw [e]; exact .nil⟩
  rw [e] at hx; cases hx
theorem bare_bc (S : SetOk G) (m1 : MV) : BindsC G.bare 2 pg [m1] [("chain", m1)] := by
  refine bindsC1 m1 (by kernel_rfl) fun fd v1 h1 h2 h3 => ?_
  obtain ⟨n, q, ps, b, sc, g, cl, df, kd, doc, pm, an, cd, ct, bu⟩ := fd
  rw [bare_clo S] at h1
  simp only [theClos] at h1 h2 h3
  subst h1 h2 h3
  rfl
section
variable {X : List Addr} {h : Heap}
mutual
theorem vr_bare' : ∀ (m : MV) (v : Value), VR G X h m v → VR G.bare X h m v
  | .none, v, x => by unfold VR at x ⊢; exact x
  | .bool b, v, x => by unfold VR at x ⊢; exact x
  | .int i, v, x => by unfold VR at x ⊢; exact x
  | .str s, v, x => by unfold VR at x ⊢; exact x
  | .list xs, v, x => by
    unfold VR at x ⊢
    obtain ⟨a, n, vs, e, hx, g, r⟩ := x
    exact ⟨a, n, vs, e, hx, g, vrs_bare' xs _ r⟩
  | .tup xs, v, x => by
    unfold VR at x ⊢
    obtain ⟨a, n, vs, e, hx, g, r⟩ := x
    exact ⟨a, n, vs, e, hx, g, vrs_bare' xs _ r⟩
  | .ref a, v, x => by unfold VR at x ⊢; exact x
  | .clo j vs, v, x => by
    unfold VR at x ⊢
    obtain ⟨a, o, fd, c, e, hx, g, d, ok, ec, hc, rc, sf, r⟩ := x
    exact ⟨a, o, fd, c, e, hx, g, d, ok, ec, hc, rc, sf, vf_bare' _ vs _ r⟩
theorem vrs_bare' : ∀ (xs : List MV) (vs : List Value), VRs G X h xs vs → VRs G.bare X h xs vs
  | [], vs, x => by unfold VRs at x ⊢; exact x
  | m :: ms, vs, x => by
    unfold VRs at x ⊢
    obtain ⟨v, r, e, a, b⟩ := x
    exact ⟨v, r, e, vr_bare' m v a, vrs_bare' ms r b⟩
theorem vf_bare' (cl : List (Str × Addr)) : ∀ (vs : List MV) (xs : List Str), VF G X h cl vs xs → VF G.bare X h cl vs xs
  | [], xs, x => by unfold VF at x ⊢; exact x
  | m :: ms, xs, x => by
    unfold VF at x ⊢
    obtain ⟨y, r, e, ⟨c, rv, ec, hc, ic, a⟩, b⟩ := x
    exact ⟨y, r, e, ⟨c, rv, ec, hc, ic, vr_bare' m rv a⟩, vf_bare' cl ms r b⟩
end
end
theorem vr_bare {X : List Addr} {h : Heap} {m : MV} {v : Value} (r : VR G X h m v) : VR G.bare X h m v := vr_bare' m v r
theorem vr_less {X : List Addr} {h : Heap} {m : MV} {v : Value} (r : VR G X h m v) : VR G ([] : List Addr) h m v := VR.keep (X := X) (X' := []) (fun a o _ _ e => e) (fun a m => (by cases m)) _ _ r
theorem calls_key (S : SetOk G) {xs : List MV} (hx : xs.length ≤ 2 ^ 20) : CallsP G 2 [] (.list xs) xs.length := by
  intro A s X fv v E rm I hf hv
  have hlam : Calls G.bare 1 (.clo 2 []) [.list xs] [] [] (fun m H' => m = .int xs.length ∧ H' = []) := by
    refine calls_lam (bare_st S) (bare_gc S) (e := ml_2) (by rw [bare_clo S]; rfl) (by kernel_rfl) (bare_bc S _) ?_
    have e : lc0 pg [("chain", .list xs)] (frOf G.bare 2 []) = [some (.list xs)] := by unfold frOf; rw [bare_clo S]; rfl
    rw [e]
    simp only [ml_2,ay,di,dk,dl,ad,az,b0,ba,bb,ae,bc,bd,bg,bh,bj,bk,af,bl,ag,bn,bp,br,bs,bt,ah,ai,bv,aj,bw,ab,ak,bx,bz,al,c6,am,dn,dp,dq,dr,c7,du,dw,dx,dy,dz,ao,ap,c8,c9,ce,aq,au,aa,cf,cj,ck,cm,co,cq,cu,av,cw,cx,cy,cz,aw,d8,d9,a9,a8,e9,ee,ew,f0,f8,f9,fb,fe,ff,fg,fh,fi,fj,fk,fo,fq,fs,ft,fu,fw,fx,da,fy,db,g0,ge,gf,gg,gh,gi,gj,gk,gl,gm,gn,gp,gq,gs,gt,gu,gv,gw,gx,gy,gz,i0,i4,i5,i6,i8,i9,ia,dc,ax,ie,ig,ii,de,dg,ij,ik,il,im,ip,iq,ir,iu,iv,iw,iy,j0,j3,j4,j5,j6,dh,j7,j8,j9,ja,jb]
    exact hx
  have hc := hlam A s [] fv [v] [] rm (bare_inv I) (vr_less (G := G.bare) (vr_bare hf)) ⟨v, [], rfl, vr_less (G := G.bare) (vr_bare hv), rfl⟩ rfl
  refine wpAny_call (codeAny_mono hc fun r s' h => ?_)
  obtain ⟨w, rfl, m, H', ⟨rfl, rfl⟩, T, r⟩ := h
  obtain ⟨t, rfl⟩ := vr_int r
  have hg := T.gens
  have ho := T.os
  refine ⟨t, s'.heap, s'.toks, rfl, ?_, fun a o e => T.keep a o (fun m => by cases m) e⟩
  cases s; cases s'
  simp only [Prod.mk.injEq] at hg ho
  obtain ⟨g1, g2⟩ := hg
  subst g1 g2 ho
  rfl
noncomputable def chainsAt : Nat → List (List Nat)
  | 0 => [[0]]
  | k + 1 => (chainsAt k).map (fun c => c ++ [c.getLastD 0 + 2 ^ k]) ++ ((chainsAt k).filter fun c => decide (1 < c.length)).map fun c => c.dropLast.map (· + 2 ^ k)
abbrev mlists (l : List (List Nat)) : List MV := l.map fun c => MV.list (mints c)
noncomputable def chainOk (k : Nat) : Bool := (chainsAt k).all (fun c => decide (1 ≤ c.length) && decide (c.length ≤ 6)) && decide ((chainsAt k).length ≤ 10)
theorem chainOks : ∀ k ∈ List.range 6, chainOk k = true := by decide +kernel
theorem slice_init (xs : List MV) (h : 1 ≤ xs.length) : sliceL xs none (some (-1)) = xs.dropLast := by
  unfold sliceL clampS
  simp only [Option.map_some, Option.getD_some, Option.map_none, Option.getD_none, List.drop_zero]
  rw [if_neg (by decide), List.dropLast_eq_take]
  congr 1; lia
theorem c_chains (S : SetOk G) {d : Nat} {H : MH} {Q : MV → MH → Prop} (hd : 2 ≤ d) (hq : ∀ l : List (List Nat), l.Perm (chainsAt 5) → l.Pairwise (fun a b => a.length ≤ b.length) → Q (.list (mlists l)) H) : Calls G (d + 1) (.fn 100) [] [] H Q := by
  refine calls_fn S.st S.f__law_chains.fn (bd__law_chains S) ?_
  have e : l0 ml [] = [none, none, none, none] := rfl
  rw [e, ph, b197]
  simp only [b198,ay,di,dk,dl,ad,az,b0,ba,bb,ae,bc,bd,bg,bh,bj,bk,af,bl,ag,bn,bp,br,bs,bt,ah,ai,bv,aj,bw,ab,ak,bx,bz,al,c6,am,dn,dp,dq,dr,c7,du,dw,dx,dy,dz,ao,ap,c8,c9,ce,aq,au,aa,cf,cj,ck,cm,co,cq,cu,av,cw,cx,cy,cz,aw,d8,d9,a9,a8,e9,ee,ew,f0,f8,f9,fb,fe,ff,fg,fh,fi,fj,fk,fo,fq,fs,ft,fu,fw,fx,da,fy,db,g0,ge,gf,gg,gh,gi,gj,gk,gl,gm,gn,gp,gq,gs,gt,gu,gv,gw,gx,gy,gz,i0,i4,i5,i6,i8,i9,ia,dc,ax,ie,ig,ii,de,dg,ij,ik,il,im,ip,iq,ir,iu,iv,iw,iy,j0,j3,j4,j5,j6,dh,j7,j8,j9,ja,jb,qf,qg,qh,qi]
  refine ⟨by simp, by simp, by unfold intOk; lia, ?_⟩
  have er : rangeL 0 5 1 = (List.range 5).map fun (k : Nat) => MV.int (k : Int) := rangeL_nat 5
  rw [er]
  refine forGo_rng (fun k T => ∀ x y z, T [some (.list (mlists (chainsAt k))), x, y, z] H) (fun T h => h none none none) (fun x y z => ?_) ?_
  · simp only [b202,ay,di,dk,dl,ad,az,b0,ba,bb,ae,bc,bd,bg,bh,bj,bk,af,bl,ag,bn,bp,br,bs,bt,ah,ai,bv,aj,bw,ab,ak,bx,bz,al,c6,am,dn,dp,dq,dr,c7,du,dw,dx,dy,dz,ao,ap,c8,c9,ce,aq,au,aa,cf,cj,ck,cm,co,cq,cu,av,cw,cx,cy,cz,aw,d8,d9,a9,a8,e9,ee,ew,f0,f8,f9,fb,fe,ff,fg,fh,fi,fj,fk,fo,fq,fs,ft,fu,fw,fx,da,fy,db,g0,ge,gf,gg,gh,gi,gj,gk,gl,gm,gn,gp,gq,gs,gt,gu,gv,gw,gx,gy,gz,i0,i4,i5,i6,i8,i9,ia,dc,ax,ie,ig,ii,de,dg,ij,ik,il,im,ip,iq,ir,iu,iv,iw,iy,j0,j3,j4,j5,j6,dh,j7,j8,j9,ja,jb]
    have ecap : capV [some (MV.list (mlists (chainsAt 5))), x, y, z] cap_2 = some [] := rfl
    rw [ecap]
    refine ⟨⟨⟨hd, by rw [List.length_map]; decide +kernel⟩, co_2 S⟩, (chainsAt 5).map fun c => (c.length : Int), ⟨by simp, fun i x q h1 h2 => ?_⟩, fun ps hp hs => ?_⟩
    · rw [List.getElem?_map] at h1 h2
      cases hc : (chainsAt 5)[i]? with
      | none => rw [hc] at h1; cases h1
      | some c =>
        rw [hc] at h1 h2
        cases h1; cases h2
        have h6 : c.length ≤ 6 := by
          have := chainOks 5 (by decide)
          unfold chainOk at this
          rw [Bool.and_eq_true] at this
          have := List.all_eq_true.mp this.1 c (List.mem_of_getElem? hc)
          simp at this; exact this.2
        have := calls_key S (xs := mints c) (by rw [List.length_map]; lia)
        rw [List.length_map] at this
        exact this
    · -- the permutation
      have ez : ((chainsAt 5).map fun c => (c.length : Int)).zip (mlists (chainsAt 5)) = (chainsAt 5).map fun c => ((c.length : Int), MV.list (mints c)) := by
        unfold mlists; rw [List.zip_map']
      rw [ez] at hp
      let g : Int × MV → List Nat := fun p => match p.2 with | .list xs => xs.map (fun v => match v with | .int i => i.toNat | _ => 0) | _ => []
      have hg : ∀ c : List Nat, g ((c.length : Int), MV.list (mints c)) = c := fun c => by
        show (mints c).map _ = c
        unfold mints
        rw [List.map_map]
        exact (List.map_congr_left fun x _ => rfl).trans (List.map_id c)
      obtain ⟨l, hl1, hl2⟩ : ∃ l : List (List Nat), l.Perm (chainsAt 5) ∧ ps = l.map fun c => ((c.length : Int), MV.list (mints c)) := by
        refine ⟨ps.map g, ?_, ?_⟩
        · have h1 := hp.map g
          rw [List.map_map] at h1
          have h2 : (chainsAt 5).map (g ∘ fun c => ((c.length : Int), MV.list (mints c))) = chainsAt 5 := (List.map_congr_left fun c _ => hg c).trans (List.map_id _)
          rw [h2] at h1
          exact h1
        · rw [List.map_map]
          refine ((List.map_id ps).symm.trans (List.map_congr_left fun p hp' => ?_))
          obtain ⟨c, _, rfl⟩ := List.mem_map.mp (hp.mem_iff.mp hp')
          exact (congrArg (fun c : List Nat => ((c.length : Int), MV.list (mints c))) (hg c)).symm
      subst hl2
      have := hq l hl1 (by
        rw [List.pairwise_map] at hs
        exact hs.imp fun h => by simpa using h)
      rw [List.map_map]
      exact this
  · intro k hkl N' hN y1 y2 y3
    have hok := chainOks k (by simp; lia)
    unfold chainOk at hok
    rw [Bool.and_eq_true] at hok
    have hlen := of_decide_eq_true hok.2
    have hmem : ∀ c ∈ chainsAt k, 1 ≤ c.length ∧ c.length ≤ 6 := fun c hc => by
      have := List.all_eq_true.mp hok.1 c hc
      simpa using this
    have ep : (2 : Int) ^ ((k : Int)).toNat = ((2 ^ k : Nat) : Int) := by rw [toNat_nat, pow_cast]
    have hb : (0 : Int) ≤ k ∧ (k : Int) ≤ 2 ^ 20 := by lia
    simp only [b199,ay,di,dk,dl,ad,az,b0,ba,bb,ae,bc,bd,bg,bh,bj,bk,af,bl,ag,bn,bp,br,bs,bt,ah,ai,bv,aj,bw,ab,ak,bx,bz,al,c6,am,dn,dp,dq,dr,c7,du,dw,dx,dy,dz,ao,ap,c8,c9,ce,aq,au,aa,cf,cj,ck,cm,co,cq,cu,av,cw,cx,cy,cz,aw,d8,d9,a9,a8,e9,ee,ew,f0,f8,f9,fb,fe,ff,fg,fh,fi,fj,fk,fo,fq,fs,ft,fu,fw,fx,da,fy,db,g0,ge,gf,gg,gh,gi,gj,gk,gl,gm,gn,gp,gq,gs,gt,gu,gv,gw,gx,gy,gz,i0,i4,i5,i6,i8,i9,ia,dc,ax,ie,ig,ii,de,dg,ij,ik,il,im,ip,iq,ir,iu,iv,iw,iy,j0,j3,j4,j5,j6,dh,j7,j8,j9,ja,jb,qf,qg,qh,qi,cc_210,cc_211,cc_213,cc_221,cc_229,cc_243,cc_253,cc_265,cc_266,cc_268,cc_271,cc_282,cc_299,cc_302,List.map_cons,List.map_nil,Option.getD_some,ep]
    refine ⟨by rw [List.length_map]; lia, by rw [List.length_map]; lia, ?_⟩
    refine compGo_map (fun v => match v with | .list (c : List MV) => .list (c ++ [match c.getLastD .none with | .int i => .int (i + ((2 ^ k : Nat) : Int)) | v => v]) | v => v) ?_ ?_ ?_
    · exact fun x hx K' h => h
    · intro x hx K' h
      obtain ⟨c, hc, rfl⟩ := List.mem_map.mp hx
      obtain ⟨c1, c2⟩ := hmem c hc
      obtain ⟨ci, cl, rfl⟩ : ∃ ci cl, c = ci ++ [cl] := ⟨c.dropLast, c.getLast (by intro q; rw [q] at c1; simp at c1), (List.dropLast_concat_getLast _).symm⟩
      have hg : (mints (ci ++ [cl]))[(mints (ci ++ [cl])).length - 1]? = some (.int (cl : Nat)) := by
        unfold mints; rw [List.map_append]; simp
      rw [kh (place_last (by rw [List.length_map]; lia)) hg]
      refine ⟨by unfold intOk; lia, ?_⟩
      simp only [ay,di,dk,dl,ad,az,b0,ba,bb,ae,bc,bd,bg,bh,bj,bk,af,bl,ag,bn,bp,br,bs,bt,ah,ai,bv,aj,bw,ab,ak,bx,bz,al,c6,am,dn,dp,dq,dr,c7,du,dw,dx,dy,dz,ao,ap,c8,c9,ce,aq,au,aa,cf,cj,ck,cm,co,cq,cu,av,cw,cx,cy,cz,aw,d8,d9,a9,a8,e9,ee,ew,f0,f8,f9,fb,fe,ff,fg,fh,fi,fj,fk,fo,fq,fs,ft,fu,fw,fx,da,fy,db,g0,ge,gf,gg,gh,gi,gj,gk,gl,gm,gn,gp,gq,gs,gt,gu,gv,gw,gx,gy,gz,i0,i4,i5,i6,i8,i9,ia,dc,ax,ie,ig,ii,de,dg,ij,ik,il,im,ip,iq,ir,iu,iv,iw,iy,j0,j3,j4,j5,j6,dh,j7,j8,j9,ja,jb,ep]
      refine ⟨hb, by simp, by simp at c2 ⊢; lia, ?_⟩
      have : (mints (ci ++ [cl])).getLastD .none = .int (cl : Nat) := by unfold mints; rw [List.map_append]; simp
      simp only [this] at h
      exact h
    · simp only [b200,ay,di,dk,dl,ad,az,b0,ba,bb,ae,bc,bd,bg,bh,bj,bk,af,bl,ag,bn,bp,br,bs,bt,ah,ai,bv,aj,bw,ab,ak,bx,bz,al,c6,am,dn,dp,dq,dr,c7,du,dw,dx,dy,dz,ao,ap,c8,c9,ce,aq,au,aa,cf,cj,ck,cm,co,cq,cu,av,cw,cx,cy,cz,aw,d8,d9,a9,a8,e9,ee,ew,f0,f8,f9,fb,fe,ff,fg,fh,fi,fj,fk,fo,fq,fs,ft,fu,fw,fx,da,fy,db,g0,ge,gf,gg,gh,gi,gj,gk,gl,gm,gn,gp,gq,gs,gt,gu,gv,gw,gx,gy,gz,i0,i4,i5,i6,i8,i9,ia,dc,ax,ie,ig,ii,de,dg,ij,ik,il,im,ip,iq,ir,iu,iv,iw,iy,j0,j3,j4,j5,j6,dh,j7,j8,j9,ja,jb,qf,qg,qh,qi,cc_210,cc_211,cc_213,cc_221,cc_229,cc_243,cc_253,cc_265,cc_266,cc_268,cc_271,cc_282,cc_299,cc_302,List.map_cons,List.map_nil,Option.getD_some]
      refine ⟨by rw [List.length_map]; lia, by rw [List.length_map]; lia, ?_⟩
      refine compGo_all (fun v => match v with | .list (c : List MV) => decide ((c.length : Int) > 1) | _ => false) (fun v => match v with | .list (c : List MV) => .list (c.dropLast.map fun v => match v with | .int i => .int (i + ((2 ^ k : Nat) : Int)) | v => v) | v => v) _ _ ?_ ?_ ?_
      · intro x hx K' h
        obtain ⟨c, hc, rfl⟩ := List.mem_map.mp hx
        obtain ⟨c1, c2⟩ := hmem c hc
        simp only [ay,di,dk,dl,ad,az,b0,ba,bb,ae,bc,bd,bg,bh,bj,bk,af,bl,ag,bn,bp,br,bs,bt,ah,ai,bv,aj,bw,ab,ak,bx,bz,al,c6,am,dn,dp,dq,dr,c7,du,dw,dx,dy,dz,ao,ap,c8,c9,ce,aq,au,aa,cf,cj,ck,cm,co,cq,cu,av,cw,cx,cy,cz,aw,d8,d9,a9,a8,e9,ee,ew,f0,f8,f9,fb,fe,ff,fg,fh,fi,fj,fk,fo,fq,fs,ft,fu,fw,fx,da,fy,db,g0,ge,gf,gg,gh,gi,gj,gk,gl,gm,gn,gp,gq,gs,gt,gu,gv,gw,gx,gy,gz,i0,i4,i5,i6,i8,i9,ia,dc,ax,ie,ig,ii,de,dg,ij,ik,il,im,ip,iq,ir,iu,iv,iw,iy,j0,j3,j4,j5,j6,dh,j7,j8,j9,ja,jb]
        refine ⟨by rw [List.length_map]; lia, ?_⟩
        simp only at h
        cases hd : decide (((mints c).length : Int) > 1) with
        | true => rw [hd] at h; exact h
        | false => rw [hd] at h; exact h
      · intro x hx hp K' h
        obtain ⟨c, hc, rfl⟩ := List.mem_map.mp hx
        obtain ⟨c1, c2⟩ := hmem c hc
        simp only [ay,di,dk,dl,ad,az,b0,ba,bb,ae,bc,bd,bg,bh,bj,bk,af,bl,ag,bn,bp,br,bs,bt,ah,ai,bv,aj,bw,ab,ak,bx,bz,al,c6,am,dn,dp,dq,dr,c7,du,dw,dx,dy,dz,ao,ap,c8,c9,ce,aq,au,aa,cf,cj,ck,cm,co,cq,cu,av,cw,cx,cy,cz,aw,d8,d9,a9,a8,e9,ee,ew,f0,f8,f9,fb,fe,ff,fg,fh,fi,fj,fk,fo,fq,fs,ft,fu,fw,fx,da,fy,db,g0,ge,gf,gg,gh,gi,gj,gk,gl,gm,gn,gp,gq,gs,gt,gu,gv,gw,gx,gy,gz,i0,i4,i5,i6,i8,i9,ia,dc,ax,ie,ig,ii,de,dg,ij,ik,il,im,ip,iq,ir,iu,iv,iw,iy,j0,j3,j4,j5,j6,dh,j7,j8,j9,ja,jb]
        refine ⟨by rw [List.length_map]; lia, ?_⟩
        rw [slice_init _ (by rw [List.length_map]; exact c1)]
        refine ⟨by rw [List.length_dropLast, List.length_map]; lia, by rw [List.length_dropLast, List.length_map]; lia, ?_⟩
        refine compGo_map (fun v => match v with | .int i => .int (i + ((2 ^ k : Nat) : Int)) | v => v) (fun x hx K' h => h) (fun x hx K' h => ?_) h
        have : x ∈ mints c := (List.dropLast_sublist _).mem hx
        obtain ⟨y, hy, rfl⟩ := List.mem_map.mp this
        simp only [ay,di,dk,dl,ad,az,b0,ba,bb,ae,bc,bd,bg,bh,bj,bk,af,bl,ag,bn,bp,br,bs,bt,ah,ai,bv,aj,bw,ab,ak,bx,bz,al,c6,am,dn,dp,dq,dr,c7,du,dw,dx,dy,dz,ao,ap,c8,c9,ce,aq,au,aa,cf,cj,ck,cm,co,cq,cu,av,cw,cx,cy,cz,aw,d8,d9,a9,a8,e9,ee,ew,f0,f8,f9,fb,fe,ff,fg,fh,fi,fj,fk,fo,fq,fs,ft,fu,fw,fx,da,fy,db,g0,ge,gf,gg,gh,gi,gj,gk,gl,gm,gn,gp,gq,gs,gt,gu,gv,gw,gx,gy,gz,i0,i4,i5,i6,i8,i9,ia,dc,ax,ie,ig,ii,de,dg,ij,ik,il,im,ip,iq,ir,iu,iv,iw,iy,j0,j3,j4,j5,j6,dh,j7,j8,j9,ja,jb,ep]
        exact ⟨hb, h⟩
      · simp only [b201,ay,di,dk,dl,ad,az,b0,ba,bb,ae,bc,bd,bg,bh,bj,bk,af,bl,ag,bn,bp,br,bs,bt,ah,ai,bv,aj,bw,ab,ak,bx,bz,al,c6,am,dn,dp,dq,dr,c7,du,dw,dx,dy,dz,ao,ap,c8,c9,ce,aq,au,aa,cf,cj,ck,cm,co,cq,cu,av,cw,cx,cy,cz,aw,d8,d9,a9,a8,e9,ee,ew,f0,f8,f9,fb,fe,ff,fg,fh,fi,fj,fk,fo,fq,fs,ft,fu,fw,fx,da,fy,db,g0,ge,gf,gg,gh,gi,gj,gk,gl,gm,gn,gp,gq,gs,gt,gu,gv,gw,gx,gy,gz,i0,i4,i5,i6,i8,i9,ia,dc,ax,ie,ig,ii,de,dg,ij,ik,il,im,ip,iq,ir,iu,iv,iw,iy,j0,j3,j4,j5,j6,dh,j7,j8,j9,ja,jb,qf,qg,qh,qi]
        have eA : (mlists (chainsAt k)).map (fun v => match v with | .list (c : List MV) => .list (c ++ [match c.getLastD .none with | .int i => .int (i + ((2 ^ k : Nat) : Int)) | v => v]) | v => v) = mlists ((chainsAt k).map (fun c => c ++ [c.getLastD 0 + 2 ^ k])) := by
          unfold mlists; rw [List.map_map, List.map_map]
          refine List.map_congr_left fun c hc => ?_
          obtain ⟨c1, c2⟩ := hmem c hc
          obtain ⟨ci, cl, rfl⟩ : ∃ ci cl, c = ci ++ [cl] := ⟨c.dropLast, c.getLast (by intro q; rw [q] at c1; simp at c1), (List.dropLast_concat_getLast _).symm⟩
          have e1 : (mints (ci ++ [cl])).getLastD .none = .int (cl : Nat) := by unfold mints; rw [List.map_append]; simp
          have e2 : (ci ++ [cl]).getLastD 0 = cl := by simp
          simp only [Function.comp, e1, e2]
          unfold mints; rw [List.map_append, List.map_append, List.map_append]; rfl
        have eB : ((mlists (chainsAt k)).filter (fun v => match v with | .list (c : List MV) => decide ((c.length : Int) > 1) | _ => false)).map (fun v => match v with | .list (c : List MV) => .list (c.dropLast.map fun v => match v with | .int i => .int (i + ((2 ^ k : Nat) : Int)) | v => v) | v => v) = mlists (((chainsAt k).filter fun c => decide (1 < c.length)).map fun c => c.dropLast.map (· + 2 ^ k)) := by
          unfold mlists
          rw [List.filter_map, List.map_map, List.map_map]
          have ef : (chainsAt k).filter ((fun v => match v with | .list (c : List MV) => decide ((c.length : Int) > 1) | _ => false) ∘ fun c => MV.list (mints c)) = (chainsAt k).filter fun c => decide (1 < c.length) := by
            refine List.filter_congr fun c hc => ?_
            simp only [Function.comp, List.length_map]
            rw [decide_eq_decide]; lia
          rw [ef]
          refine List.map_congr_left fun c hc => ?_
          simp only [Function.comp]
          congr 1
          unfold mints
          rw [← List.map_dropLast, List.map_map, List.map_map]
          rfl
        rw [eA, eB, List.nil_append]
        have hnn := hN (some (.int k)) (some (.list (mlists ((chainsAt k).map (fun c => c ++ [c.getLastD 0 + 2 ^ k]))))) (some (.list (mlists (((chainsAt k).filter fun c => decide (1 < c.length)).map fun c => c.dropLast.map (· + 2 ^ k)))))
        have he : mlists (chainsAt (k + 1)) = mlists ((chainsAt k).map (fun c => c ++ [c.getLastD 0 + 2 ^ k])) ++ mlists (((chainsAt k).filter fun c => decide (1 < c.length)).map fun c => c.dropLast.map (· + 2 ^ k)) := by
          rw [chainsAt]; unfold mlists; rw [List.map_append]
        rw [he] at hnn
        refine ⟨?_, hnn⟩
        have := List.length_filter_le (fun c : List Nat => decide (1 < c.length)) (chainsAt k)
        simp only [List.length_map]; lia
end Mine
namespace Mine
noncomputable def sc (x y : Nat) : Nat := if x = y then 0 else if (x = 97 ∧ y = 65) ∨ (x = 65 ∧ y = 97) then 1 else 2
theorem sc_le (x y : Nat) : sc x y ≤ 2 := by unfold sc; split <;> (try split) <;> lia
theorem sc_self (x : Nat) : sc x x = 0 := by unfold sc; rw [if_pos rfl]
theorem sc_comm (x y : Nat) : sc x y = sc y x := by
  unfold sc
  by_cases h : x = y
  · subst h; rfl
  · rw [if_neg h, if_neg (Ne.symm h)]
    by_cases h2 : (x = 97 ∧ y = 65) ∨ (x = 65 ∧ y = 97)
    · rw [if_pos h2, if_pos (by lia)]
    · rw [if_neg h2, if_neg (by lia)]
noncomputable def Drow (f : List Nat → Nat) (x n : Nat) : List Nat → Nat
  | [] => 2 * (n + 1)
  | y :: b => min (min (Drow f x n b + 2) (f (y :: b) + 2)) (f b + sc x y)
noncomputable def D : List Nat → List Nat → Nat
  | [], b => 2 * b.length
  | x :: a, b => Drow (D a) x a.length b
theorem D_nil (b : List Nat) : D [] b = 2 * b.length := rfl
theorem D_nil' (a : List Nat) : D a [] = 2 * a.length := by cases a <;> rfl
theorem D_cons (x y : Nat) (a b : List Nat) : D (x :: a) (y :: b) = min (min (D (x :: a) b + 2) (D a (y :: b) + 2)) (D a b + sc x y) := rfl
theorem D_comm : ∀ (n : Nat) (a b : List Nat), a.length + b.length ≤ n → D a b = D b a
  | n, [], b, _ => by rw [D_nil, D_nil']
  | n, x :: a, [], _ => by rw [D_nil, D_nil']
  | n + 1, x :: a, y :: b, h => by
    simp only [List.length_cons] at h
    rw [D_cons, D_cons, D_comm n (x :: a) b (by simp only [List.length_cons]; lia), D_comm n a (y :: b) (by simp only [List.length_cons]; lia), D_comm n a b (by lia), sc_comm, Nat.min_comm (D b (x :: a) + 2)]
  | 0, x :: a, y :: b, h => by simp only [List.length_cons] at h; lia
theorem m3_2 {a b c : Nat} : min (min a b) c ≤ b := Nat.le_trans (Nat.min_le_left _ _) (Nat.min_le_right _ _)
theorem le_m3 {x a b c : Nat} (h1 : x ≤ a) (h2 : x ≤ b) (h3 : x ≤ c) : x ≤ min (min a b) c := Nat.le_min.mpr ⟨Nat.le_min.mpr ⟨h1, h2⟩, h3⟩
theorem m3_add {a b c k : Nat} : min (min a b) c + k = min (min (a + k) (b + k)) (c + k) := by rw [Nat.add_min_add_right, Nat.add_min_add_right]
theorem m3_cases (a b c : Nat) : min (min a b) c = a ∨ min (min a b) c = b ∨ min (min a b) c = c := by
  rcases Nat.le_total (min a b) c with h | h
  · rw [Nat.min_eq_left h]
    exact (Nat.le_total a b).imp Nat.min_eq_left fun h => .inl (Nat.min_eq_right h)
  · exact .inr (.inr (Nat.min_eq_right h))
theorem D_up (x : Nat) (a b : List Nat) : D (x :: a) b ≤ D a b + 2 := by
  cases b with
  | nil => rw [D_nil', D_nil']; simp; lia
  | cons y b => rw [D_cons]; exact m3_2
theorem D_up' (y : Nat) (a b : List Nat) : D a (y :: b) ≤ D a b + 2 := by
  rw [D_comm _ a _ (Nat.le_refl _), D_comm _ a b (Nat.le_refl _)]; exact D_up y b a
theorem D_down (x : Nat) (a : List Nat) : ∀ b : List Nat, D a b ≤ D (x :: a) b + 2
  | [] => by rw [D_nil', D_nil']; simp; lia
  | y :: b => by
    have h1 := D_up' y a b
    have h2 := D_down x a b
    rw [D_cons, m3_add]
    exact le_m3 (Nat.le_trans h1 (Nat.add_le_add_right h2 2)) (Nat.le_add_right _ 4) (Nat.le_trans h1 (Nat.add_le_add_right (Nat.le_add_right _ _) 2))
theorem D_down' (y : Nat) (a b : List Nat) : D a b ≤ D a (y :: b) + 2 := by
  rw [D_comm _ a _ (Nat.le_refl _), D_comm _ a (y :: b) (Nat.le_refl _)]; exact D_down y b a
theorem D_cancel (x : Nat) (a b : List Nat) : D (x :: a) (x :: b) = D a b := by
  have h1 := D_down x a b
  have h2 := D_down' x a b
  rw [D_cons, sc_self]; exact Nat.min_eq_right (Nat.le_min.mpr ⟨h1, h2⟩)
theorem D_same : ∀ a : List Nat, D a a = 0
  | [] => by rw [D_nil]; rfl
  | x :: a => by rw [D_cancel, D_same a]
theorem D_low : ∀ (n : Nat) (a b : List Nat), a.length + b.length ≤ n → 2 * a.length ≤ D a b + 2 * b.length
  | n, [], b, _ => by simp
  | n, x :: a, [], _ => by rw [D_nil']; lia
  | n + 1, x :: a, y :: b, h => by
    simp only [List.length_cons] at h
    have h1 := D_low n (x :: a) b (by simp only [List.length_cons]; lia)
    have h2 := D_low n a (y :: b) (by simp only [List.length_cons]; lia)
    have h3 := D_low n a b (by lia)
    rw [D_cons, m3_add]
    simp only [List.length_cons] at h1 h2 ⊢
    exact le_m3 (by lia) (by lia) (by lia)
  | 0, x :: a, y :: b, h => by simp only [List.length_cons] at h; lia
theorem D_snoc0 (x : Nat) : ∀ b : List Nat, D [x] (b ++ [x]) = 2 * b.length
  | [] => by rw [List.nil_append, D_cancel, D_nil]
  | v :: b => by
    rw [List.cons_append, D_cons, D_snoc0 x b, D_nil, D_nil]
    simp; lia
theorem D_snoc (x : Nat) : ∀ (n : Nat) (a b : List Nat), a.length + b.length ≤ n → D (a ++ [x]) (b ++ [x]) = D a b
  | n, [], b, _ => by rw [List.nil_append, D_snoc0, D_nil]
  | n, u :: a, [], _ => by rw [D_comm _ _ _ (Nat.le_refl _), List.nil_append, D_snoc0, D_nil']
  | n + 1, u :: a, v :: b, h => by
    simp only [List.length_cons] at h
    have h1 := D_snoc x n (u :: a) b (by simp only [List.length_cons]; lia)
    have h2 := D_snoc x n a (v :: b) (by simp only [List.length_cons]; lia)
    have h3 := D_snoc x n a b (by lia)
    rw [List.cons_append] at h1
    rw [List.cons_append] at h2
    rw [List.cons_append, List.cons_append, D_cons, h1, h2, h3, D_cons]
  | 0, u :: a, v :: b, h => by simp only [List.length_cons] at h; lia
theorem D_row (p : List Nat) : ∀ (n : Nat) (s q : List Nat), s.length + q.length ≤ n → ∃ q', q' <:+ q ∧ D p q' ≤ D (s ++ p) q
  | n, [], q, _ => ⟨q, List.suffix_refl q, Nat.le_refl _⟩
  | n, x :: s, [], _ => ⟨[], List.suffix_refl [], by rw [D_nil', D_nil']; simp; lia⟩
  | n + 1, x :: s, y :: q, h => by
    simp only [List.length_cons] at h
    obtain ⟨q1, s1, h1⟩ := D_row p n (x :: s) q (by simp only [List.length_cons]; lia)
    obtain ⟨q2, s2, h2⟩ := D_row p n s (y :: q) (by simp only [List.length_cons]; lia)
    obtain ⟨q3, s3, h3⟩ := D_row p n s q (by lia)
    rw [List.cons_append] at h1 ⊢
    rw [D_cons]
    rcases m3_cases (D (x :: (s ++ p)) q + 2) (D (s ++ p) (y :: q) + 2) (D (s ++ p) q + sc x y) with e | e | e <;> rw [e]
    · exact ⟨q1, s1.trans (List.suffix_cons y q), Nat.le_add_right_of_le h1⟩
    · exact ⟨q2, s2, Nat.le_add_right_of_le h2⟩
    · exact ⟨q3, s3.trans (List.suffix_cons y q), Nat.le_add_right_of_le h3⟩
  | 0, x :: s, y :: q, h => by simp only [List.length_cons] at h; lia
theorem D_rowne {x : Nat} {p s A : List Nat} (hA : A ≠ []) : ∃ i, 1 ≤ i ∧ i ≤ A.length ∧ D (x :: p) (A.take i).reverse ≤ D (s ++ (x :: p)) A.reverse := by
  obtain ⟨q', hs, hle⟩ := D_row (x :: p) _ s A.reverse (Nat.le_refl _)
  have hl := hs.length_le
  rw [List.length_reverse] at hl
  have hq : q' = (A.take q'.length).reverse := by
    have h1 : q'.reverse <+: A := by rw [← List.reverse_reverse A]; exact List.reverse_prefix.mpr hs
    have h2 := List.prefix_iff_eq_take.mp h1
    rw [List.length_reverse] at h2
    rw [← h2, List.reverse_reverse]
  by_cases h0 : q' = []
  · subst h0
    obtain ⟨y, A', rfl⟩ := List.exists_cons_of_ne_nil hA
    refine ⟨1, Nat.le_refl _, by simp, ?_⟩
    have : D (x :: p) [y] ≤ D (x :: p) [] := by
      rw [D_cons, D_nil', D_nil', ]
      have := sc_le x y
      simp; lia
    exact Nat.le_trans this hle
  · refine ⟨q'.length, List.length_pos_iff.mpr h0, hl, ?_⟩
    rw [← hq]; exact hle
end Mine
namespace Mine
variable {G : Stat}
noncomputable def rowL (p other : List Nat) : List Nat := (List.range (other.length + 1)).map fun k => D p (other.take k).reverse
theorem rowL_get {p other : List Nat} {k : Nat} (h : k ≤ other.length) : (mints (rowL p other))[k]? = some (.int (D p (other.take k).reverse : Nat)) := by
  unfold mints rowL
  rw [List.getElem?_map, List.getElem?_map, List.getElem?_range (by lia)]; rfl
theorem rowL_len {p other : List Nat} : (mints (rowL p other)).length = other.length + 1 := by unfold mints rowL; simp
theorem take_rev {other : List Nat} {k : Nat} (h : k < other.length) : (other.take (k + 1)).reverse = other[k] :: (other.take k).reverse := by
  rw [List.take_add_one, List.getElem?_eq_getElem h]; simp
theorem sg_beq (x y : Nat) : (sg x == sg y) = decide (x = y) := by
  rw [Bool.eq_iff_iff]; simp
theorem aA_in (x y : Nat) : ([(Str.ofString "aA"), (Str.ofString "Aa")].contains (sg x ++ sg y)) = decide ((x = 97 ∧ y = 65) ∨ (x = 65 ∧ y = 97)) := by
  have e1 : Str.ofString "aA" = tx [97, 65] := by decide +kernel
  have e2 : Str.ofString "Aa" = tx [65, 97] := by decide +kernel
  have e3 : sg x ++ sg y = tx [x, y] := by show tx [x] ++ tx [y] = _; rw [tx_append]; rfl
  rw [e1, e2, e3, Bool.eq_iff_iff]
  simp
theorem d_le_len (p q : List Nat) : D p q ≤ 2 * p.length + 2 * q.length := by
  induction p with
  | nil => rw [D_nil]; simp
  | cons x p ih => have := D_up x p q; simp only [List.length_cons]; lia
theorem c_price (S : SetOk G) {d : Nat} {one other : List Nat} {H : MH} {Q : MV → MH → Prop} (h1 : one.length ≤ 64) (h2 : other.length ≤ 64) (hq : Q (.int (D one.reverse other.reverse : Nat)) H) : Calls G (d + 1) (.fn 115) [.str (tx one), .str (tx other)] [] H Q := by
  refine calls_fn S.st S.f__law_price.fn (bd__law_price S _ _) ?_
  have e : l0 lx [("one", .str (tx one)), ("other", .str (tx other))] = [some (.str (tx one)), some (.str (tx other)), none, none, none, none, none] := rfl
  rw [e, pv, b214]
  simp only [b215,ay,di,dk,dl,ad,az,b0,ba,bb,ae,bc,bd,bg,bh,bj,bk,af,bl,ag,bn,bp,br,bs,bt,ah,ai,bv,aj,bw,ab,ak,bx,bz,al,c6,am,dn,dp,dq,dr,c7,du,dw,dx,dy,dz,ao,ap,c8,c9,ce,aq,au,aa,cf,cj,ck,cm,co,cq,cu,av,cw,cx,cy,cz,aw,d8,d9,a9,a8,e9,ee,ew,f0,f8,f9,fb,fe,ff,fg,fh,fi,fj,fk,fo,fq,fs,ft,fu,fw,fx,da,fy,db,g0,ge,gf,gg,gh,gi,gj,gk,gl,gm,gn,gp,gq,gs,gt,gu,gv,gw,gx,gy,gz,i0,i4,i5,i6,i8,i9,ia,dc,ax,ie,ig,ii,de,dg,ij,ik,il,im,ip,iq,ir,iu,iv,iw,iy,j0,j3,j4,j5,j6,dh,j7,j8,j9,ja,jb,qj,qk,qm,qn,qo,qp,qq,cc_210,cc_211,cc_213,cc_221,cc_229,cc_243,cc_253,cc_265,cc_266,cc_268,cc_271,cc_282,cc_299,cc_302,List.map_cons,List.map_nil,Option.getD_some,tx_len]
  have er : ((other.length : Int) + 1) = ((other.length + 1 : Nat) : Int) := by lia
  rw [er, rangeL_nat]
  refine ⟨by lia, intOk_nat (by lia), by simp; lia, ?_⟩
  refine compGo_map (fun v => match v with | .int k => .int (2 * k) | v => v) ?_ ?_ ?_
  · exact fun x hx K' h => h
  · intro x hx K' h
    obtain ⟨k, hk, rfl⟩ := List.mem_map.mp hx
    have hk2 := List.mem_range.mp hk
    simp only [ay,di,dk,dl,ad,az,b0,ba,bb,ae,bc,bd,bg,bh,bj,bk,af,bl,ag,bn,bp,br,bs,bt,ah,ai,bv,aj,bw,ab,ak,bx,bz,al,c6,am,dn,dp,dq,dr,c7,du,dw,dx,dy,dz,ao,ap,c8,c9,ce,aq,au,aa,cf,cj,ck,cm,co,cq,cu,av,cw,cx,cy,cz,aw,d8,d9,a9,a8,e9,ee,ew,f0,f8,f9,fb,fe,ff,fg,fh,fi,fj,fk,fo,fq,fs,ft,fu,fw,fx,da,fy,db,g0,ge,gf,gg,gh,gi,gj,gk,gl,gm,gn,gp,gq,gs,gt,gu,gv,gw,gx,gy,gz,i0,i4,i5,i6,i8,i9,ia,dc,ax,ie,ig,ii,de,dg,ij,ik,il,im,ip,iq,ir,iu,iv,iw,iy,j0,j3,j4,j5,j6,dh,j7,j8,j9,ja,jb]
    exact ⟨small_mul (a := 2) (by lia) (by lia), h⟩
  have erow : ((List.range (other.length + 1)).map fun (k : Nat) => MV.int (k : Int)).map (fun v => match v with | .int k => .int (2 * k) | v => v) = mints (rowL [] other) := by
    unfold mints rowL
    rw [List.map_map, List.map_map]
    refine List.map_congr_left fun k hk => ?_
    have hk2 := List.mem_range.mp hk
    simp only [Function.comp, D_nil, List.length_reverse, List.length_take]
    congr 1
    rw [Nat.min_eq_left (by lia)]; push_cast; rfl
  rw [erow]
  have hsg : signs (tx one) = one.map fun c => MV.str (sg c) := by unfold signs; simp
  refine ⟨by lia, ?_⟩
  rw [hsg]
  refine forGo_ch (fun j T => ∀ x2 x4 x5 x6, T [some (.str (tx one)), some (.str (tx other)), x2, some (.list (mints (rowL (one.take j).reverse other))), x4, x5, x6] H) (fun T h => h none none none none) (fun x2 x4 x5 x6 => ?_) fun j x hx N' hN x2 x4 x5 x6 => ?_
  · rw [List.take_length]
    simp only [b221,ay,di,dk,dl,ad,az,b0,ba,bb,ae,bc,bd,bg,bh,bj,bk,af,bl,ag,bn,bp,br,bs,bt,ah,ai,bv,aj,bw,ab,ak,bx,bz,al,c6,am,dn,dp,dq,dr,c7,du,dw,dx,dy,dz,ao,ap,c8,c9,ce,aq,au,aa,cf,cj,ck,cm,co,cq,cu,av,cw,cx,cy,cz,aw,d8,d9,a9,a8,e9,ee,ew,f0,f8,f9,fb,fe,ff,fg,fh,fi,fj,fk,fo,fq,fs,ft,fu,fw,fx,da,fy,db,g0,ge,gf,gg,gh,gi,gj,gk,gl,gm,gn,gp,gq,gs,gt,gu,gv,gw,gx,gy,gz,i0,i4,i5,i6,i8,i9,ia,dc,ax,ie,ig,ii,de,dg,ij,ik,il,im,ip,iq,ir,iu,iv,iw,iy,j0,j3,j4,j5,j6,dh,j7,j8,j9,ja,jb]
    have hg := rowL_get (p := one.reverse) (other := other) (k := other.length) (Nat.le_refl _)
    rw [List.take_length] at hg
    rw [kh (place_last (by rw [rowL_len]; lia)) (by rw [rowL_len]; exact hg)]
    exact ⟨by unfold intOk; lia, _, .refl _, hq⟩
  · obtain ⟨hj, rfl⟩ := List.getElem?_eq_some_iff.mp hx
    have hnn := fun x2 x5 x6 => hN x2 (some (.str (sg one[j]))) x5 x6
    rw [take_rev hj] at hnn
    have hp : (one.take j).reverse.length ≤ 64 := by simp; lia
    generalize one[j] = x at *
    generalize (one.take j).reverse = p at *
    simp only [b216,ay,di,dk,dl,ad,az,b0,ba,bb,ae,bc,bd,bg,bh,bj,bk,af,bl,ag,bn,bp,br,bs,bt,ah,ai,bv,aj,bw,ab,ak,bx,bz,al,c6,am,dn,dp,dq,dr,c7,du,dw,dx,dy,dz,ao,ap,c8,c9,ce,aq,au,aa,cf,cj,ck,cm,co,cq,cu,av,cw,cx,cy,cz,aw,d8,d9,a9,a8,e9,ee,ew,f0,f8,f9,fb,fe,ff,fg,fh,fi,fj,fk,fo,fq,fs,ft,fu,fw,fx,da,fy,db,g0,ge,gf,gg,gh,gi,gj,gk,gl,gm,gn,gp,gq,gs,gt,gu,gv,gw,gx,gy,gz,i0,i4,i5,i6,i8,i9,ia,dc,ax,ie,ig,ii,de,dg,ij,ik,il,im,ip,iq,ir,iu,iv,iw,iy,j0,j3,j4,j5,j6,dh,j7,j8,j9,ja,jb,qj,qk,qm,qn,qo,qp,qq]
    have hg0 := rowL_get (p := p) (other := other) (k := 0) (Nat.zero_le _)
    rw [kh (place_zero (by rw [rowL_len]; lia)) hg0]
    refine ⟨by unfold intOk; lia, by simp, fun a ha => ?_⟩
    simp only [b217,ay,di,dk,dl,ad,az,b0,ba,bb,ae,bc,bd,bg,bh,bj,bk,af,bl,ag,bn,bp,br,bs,bt,ah,ai,bv,aj,bw,ab,ak,bx,bz,al,c6,am,dn,dp,dq,dr,c7,du,dw,dx,dy,dz,ao,ap,c8,c9,ce,aq,au,aa,cf,cj,ck,cm,co,cq,cu,av,cw,cx,cy,cz,aw,d8,d9,a9,a8,e9,ee,ew,f0,f8,f9,fb,fe,ff,fg,fh,fi,fj,fk,fo,fq,fs,ft,fu,fw,fx,da,fy,db,g0,ge,gf,gg,gh,gi,gj,gk,gl,gm,gn,gp,gq,gs,gt,gu,gv,gw,gx,gy,gz,i0,i4,i5,i6,i8,i9,ia,dc,ax,ie,ig,ii,de,dg,ij,ik,il,im,ip,iq,ir,iu,iv,iw,iy,j0,j3,j4,j5,j6,dh,j7,j8,j9,ja,jb,tx_len]
    rw [rangeL_nat]
    refine ⟨by lia, intOk_nat (by lia), ?_⟩
    refine forGo_rng (fun k T => ∀ x2 x6, T [some (.str (tx one)), some (.str (tx other)), x2, some (.list (mints (rowL p other))), some (.str (sg x)), some (.ref a), x6] ((a, mints ((List.range (k + 1)).map fun i => D (x :: p) (other.take i).reverse)) :: H)) (fun T h => ?_) (fun y2 y6 => ?_) fun k hk N'' hN2 y2 y6 => ?_
    · have e0 : mints ((List.range (0 + 1)).map fun i => D (x :: p) (other.take i).reverse) = [MV.int ((D p (other.take 0).reverse : Nat) + 2)] := by
        show [MV.int ((D (x :: p) (other.take 0).reverse : Nat) : Int)] = _
        rw [List.take_zero, List.reverse_nil, D_nil', D_nil', List.length_cons]
        congr 2
      have hh := h x2 x6
      rw [e0] at hh; exact hh
    · simp only [b220,ay,di,dk,dl,ad,az,b0,ba,bb,ae,bc,bd,bg,bh,bj,bk,af,bl,ag,bn,bp,br,bs,bt,ah,ai,bv,aj,bw,ab,ak,bx,bz,al,c6,am,dn,dp,dq,dr,c7,du,dw,dx,dy,dz,ao,ap,c8,c9,ce,aq,au,aa,cf,cj,ck,cm,co,cq,cu,av,cw,cx,cy,cz,aw,d8,d9,a9,a8,e9,ee,ew,f0,f8,f9,fb,fe,ff,fg,fh,fi,fj,fk,fo,fq,fs,ft,fu,fw,fx,da,fy,db,g0,ge,gf,gg,gh,gi,gj,gk,gl,gm,gn,gp,gq,gs,gt,gu,gv,gw,gx,gy,gz,i0,i4,i5,i6,i8,i9,ia,dc,ax,ie,ig,ii,de,dg,ij,ik,il,im,ip,iq,ir,iu,iv,iw,iy,j0,j3,j4,j5,j6,dh,j7,j8,j9,ja,jb,qj,qk,qm,qn,qo,qp,qq,h_look,h_del ha]
      exact hnn _ _ _
    · have hn2 := fun x6 => hN2 (some (.int k)) x6
      rw [List.range_succ, List.map_append, List.map_cons, List.map_nil, take_rev hk, D_cons] at hn2
      have hoc : (tx other).cps[k]? = some other[k] := by simp
      have hpl : place (tx other).cps.size (k : Int) = some k := place_nat (by simpa using hk)
      have hblen : (mints ((List.range (k + 1)).map fun i => D (x :: p) (other.take i).reverse)).length = k + 1 := by unfold mints; simp
      have hb : (mints ((List.range (k + 1)).map fun i => D (x :: p) (other.take i).reverse))[k]? = some (.int (D (x :: p) (other.take k).reverse : Nat)) := by
        unfold mints
        rw [List.getElem?_map, List.getElem?_map, List.getElem?_range (by lia)]; rfl
      have hr1 := rowL_get (p := p) (other := other) (k := k + 1) (by lia)
      rw [take_rev hk] at hr1
      have hr0 := rowL_get (p := p) (other := other) (k := k) (by lia)
      have rest : exs G d b219 lx [some (.str (tx one)), some (.str (tx other)), some (.int k), some (.list (mints (rowL p other))), some (.str (sg x)), some (.ref a), some (.int (sc x other[k] : Nat))] ((a, mints ((List.range (k + 1)).map fun i => D (x :: p) (other.take i).reverse)) :: H) N'' Q := by
        simp only [b219,ay,di,dk,dl,ad,az,b0,ba,bb,ae,bc,bd,bg,bh,bj,bk,af,bl,ag,bn,bp,br,bs,bt,ah,ai,bv,aj,bw,ab,ak,bx,bz,al,c6,am,dn,dp,dq,dr,c7,du,dw,dx,dy,dz,ao,ap,c8,c9,ce,aq,au,aa,cf,cj,ck,cm,co,cq,cu,av,cw,cx,cy,cz,aw,d8,d9,a9,a8,e9,ee,ew,f0,f8,f9,fb,fe,ff,fg,fh,fi,fj,fk,fo,fq,fs,ft,fu,fw,fx,da,fy,db,g0,ge,gf,gg,gh,gi,gj,gk,gl,gm,gn,gp,gq,gs,gt,gu,gv,gw,gx,gy,gz,i0,i4,i5,i6,i8,i9,ia,dc,ax,ie,ig,ii,de,dg,ij,ik,il,im,ip,iq,ir,iu,iv,iw,iy,j0,j3,j4,j5,j6,dh,j7,j8,j9,ja,jb]
        refine ⟨by rw [h_look]; rfl, ?_⟩
        rw [qe h_look (place_nat (by rw [hblen]; lia)) hb]
        refine ⟨intOk_nat (by lia), ?_⟩
        have ek : ((k : Int) + 1) = ((k + 1 : Nat) : Int) := by lia
        simp only [ek,ay,di,dk,dl,ad,az,b0,ba,bb,ae,bc,bd,bg,bh,bj,bk,af,bl,ag,bn,bp,br,bs,bt,ah,ai,bv,aj,bw,ab,ak,bx,bz,al,c6,am,dn,dp,dq,dr,c7,du,dw,dx,dy,dz,ao,ap,c8,c9,ce,aq,au,aa,cf,cj,ck,cm,co,cq,cu,av,cw,cx,cy,cz,aw,d8,d9,a9,a8,e9,ee,ew,f0,f8,f9,fb,fe,ff,fg,fh,fi,fj,fk,fo,fq,fs,ft,fu,fw,fx,da,fy,db,g0,ge,gf,gg,gh,gi,gj,gk,gl,gm,gn,gp,gq,gs,gt,gu,gv,gw,gx,gy,gz,i0,i4,i5,i6,i8,i9,ia,dc,ax,ie,ig,ii,de,dg,ij,ik,il,im,ip,iq,ir,iu,iv,iw,iy,j0,j3,j4,j5,j6,dh,j7,j8,j9,ja,jb]
        rw [kh (place_nat (by rw [rowL_len]; lia)) hr1]
        refine ⟨intOk_nat (by lia), ?_⟩
        rw [da]
        rw [kh (place_nat (by rw [rowL_len]; lia)) hr0]
        refine ⟨intOk_nat (by lia), ?_⟩
        simp only [ay,di,dk,dl,ad,az,b0,ba,bb,ae,bc,bd,bg,bh,bj,bk,af,bl,ag,bn,bp,br,bs,bt,ah,ai,bv,aj,bw,ab,ak,bx,bz,al,c6,am,dn,dp,dq,dr,c7,du,dw,dx,dy,dz,ao,ap,c8,c9,ce,aq,au,aa,cf,cj,ck,cm,co,cq,cu,av,cw,cx,cy,cz,aw,d8,d9,a9,a8,e9,ee,ew,f0,f8,f9,fb,fe,ff,fg,fh,fi,fj,fk,fo,fq,fs,ft,fu,fw,fx,da,fy,db,g0,ge,gf,gg,gh,gi,gj,gk,gl,gm,gn,gp,gq,gs,gt,gu,gv,gw,gx,gy,gz,i0,i4,i5,i6,i8,i9,ia,dc,ax,ie,ig,ii,de,dg,ij,ik,il,im,ip,iq,ir,iu,iv,iw,iy,j0,j3,j4,j5,j6,dh,j7,j8,j9,ja,jb]
        rw [qv h_look, h_set ha, hblen]
        refine ⟨by lia, rfl, ?_⟩
        have hn3 := hn2 (some (.int (sc x other[k] : Nat)))
        have em : (min (min (((D (x :: p) (other.take k).reverse : Nat) : Int) + 2) (((D p (other[k] :: (other.take k).reverse) : Nat) : Int) + 2)) (((D p (other.take k).reverse : Nat) : Int) + ((sc x other[k] : Nat) : Int))) = ((min (min (D (x :: p) (other.take k).reverse + 2) (D p (other[k] :: (other.take k).reverse) + 2)) (D p (other.take k).reverse + sc x other[k]) : Nat) : Int) := by
          rw [cmin, cmin]; rfl
        rw [em]
        unfold mints at hn3 ⊢
        rw [List.map_append] at hn3
        exact hn3
      simp only [b218,ay,di,dk,dl,ad,az,b0,ba,bb,ae,bc,bd,bg,bh,bj,bk,af,bl,ag,bn,bp,br,bs,bt,ah,ai,bv,aj,bw,ab,ak,bx,bz,al,c6,am,dn,dp,dq,dr,c7,du,dw,dx,dy,dz,ao,ap,c8,c9,ce,aq,au,aa,cf,cj,ck,cm,co,cq,cu,av,cw,cx,cy,cz,aw,d8,d9,a9,a8,e9,ee,ew,f0,f8,f9,fb,fe,ff,fg,fh,fi,fj,fk,fo,fq,fs,ft,fu,fw,fx,da,fy,db,g0,ge,gf,gg,gh,gi,gj,gk,gl,gm,gn,gp,gq,gs,gt,gu,gv,gw,gx,gy,gz,i0,i4,i5,i6,i8,i9,ia,dc,ax,ie,ig,ii,de,dg,ij,ik,il,im,ip,iq,ir,iu,iv,iw,iy,j0,j3,j4,j5,j6,dh,j7,j8,j9,ja,jb,qj,qk,qm,qn,qo,qp,qq]
      rw [ly hpl hoc]
      refine ⟨intOk_nat (by lia), ?_⟩
      have ebeq : ((⟨#[x]⟩ : Str) == ⟨#[other[k]]⟩) = decide (x = other[k]) := sg_beq _ _
      simp only [ay,di,dk,dl,ad,az,b0,ba,bb,ae,bc,bd,bg,bh,bj,bk,af,bl,ag,bn,bp,br,bs,bt,ah,ai,bv,aj,bw,ab,ak,bx,bz,al,c6,am,dn,dp,dq,dr,c7,du,dw,dx,dy,dz,ao,ap,c8,c9,ce,aq,au,aa,cf,cj,ck,cm,co,cq,cu,av,cw,cx,cy,cz,aw,d8,d9,a9,a8,e9,ee,ew,f0,f8,f9,fb,fe,ff,fg,fh,fi,fj,fk,fo,fq,fs,ft,fu,fw,fx,da,fy,db,g0,ge,gf,gg,gh,gi,gj,gk,gl,gm,gn,gp,gq,gs,gt,gu,gv,gw,gx,gy,gz,i0,i4,i5,i6,i8,i9,ia,dc,ax,ie,ig,ii,de,dg,ij,ik,il,im,ip,iq,ir,iu,iv,iw,iy,j0,j3,j4,j5,j6,dh,j7,j8,j9,ja,jb,ebeq]
      by_cases hc : x = other[k]
      · rw [decide_eq_true hc]
        simp only
        rw [hc, sc_self, ← hc] at rest
        exact rest
      · rw [decide_eq_false hc]
        simp only
        rw [ly hpl hoc]
        refine ⟨intOk_nat (by lia), ?_⟩
        simp only [ay,di,dk,dl,ad,az,b0,ba,bb,ae,bc,bd,bg,bh,bj,bk,af,bl,ag,bn,bp,br,bs,bt,ah,ai,bv,aj,bw,ab,ak,bx,bz,al,c6,am,dn,dp,dq,dr,c7,du,dw,dx,dy,dz,ao,ap,c8,c9,ce,aq,au,aa,cf,cj,ck,cm,co,cq,cu,av,cw,cx,cy,cz,aw,d8,d9,a9,a8,e9,ee,ew,f0,f8,f9,fb,fe,ff,fg,fh,fi,fj,fk,fo,fq,fs,ft,fu,fw,fx,da,fy,db,g0,ge,gf,gg,gh,gi,gj,gk,gl,gm,gn,gp,gq,gs,gt,gu,gv,gw,gx,gy,gz,i0,i4,i5,i6,i8,i9,ia,dc,ax,ie,ig,ii,de,dg,ij,ik,il,im,ip,iq,ir,iu,iv,iw,iy,j0,j3,j4,j5,j6,dh,j7,j8,j9,ja,jb]
        refine ⟨by show 1 + 1 ≤ 2 ^ 20; lia, by simp, ?_⟩
        rw [wm (u := [Str.ofString "aA", Str.ofString "Aa"]) rfl, aA_in]
        refine ⟨by simp, ?_⟩
        unfold sc at rest
        rw [if_neg hc] at rest
        by_cases hd : (x = 97 ∧ other[k] = 65) ∨ (x = 65 ∧ other[k] = 97)
        · rw [decide_eq_true hd]
          rw [if_pos hd] at rest
          exact rest
        · rw [decide_eq_false hd]
          rw [if_neg hd] at rest
          exact rest
end Mine
namespace Mine
variable {G : Stat}
theorem sub_sc : ∀ x ∈ letters, ∀ y ∈ letters, subCost (sg x) (sg y) = (sc x y : Nat) := by decide +kernel
noncomputable def rowM (p A : List Nat) : List Nat := (List.range A.length).map fun k => D p (A.take (k + 1)).reverse
noncomputable def rowH (y : Nat) (p A : List Nat) (i : Nat) : List Nat := (List.range A.length).map fun k => if k < i then D (y :: p) (A.take (k + 1)).reverse else D p (A.take (k + 1)).reverse
theorem rowH_get {y : Nat} {p A : List Nat} {i k : Nat} (h : k < A.length) : (mints (rowH y p A i))[k]? = some (.int ((if k < i then D (y :: p) (A.take (k + 1)).reverse else D p (A.take (k + 1)).reverse : Nat) : Int)) := by
  unfold mints rowH
  rw [List.getElem?_map, List.getElem?_map, List.getElem?_range h]; rfl
theorem rowH_len {y : Nat} {p A : List Nat} {i : Nat} : (mints (rowH y p A i)).length = A.length := by unfold mints rowH; simp
theorem rowH_set {y : Nat} {p A : List Nat} {i : Nat} (h : i < A.length) : (mints (rowH y p A i)).set i (.int (D (y :: p) (A.take (i + 1)).reverse : Nat)) = mints (rowH y p A (i + 1)) := by
  refine List.ext_getElem? fun k => ?_
  rw [List.getElem?_set]
  by_cases hk : k < A.length
  · rw [rowH_get hk, rowH_get hk, rowH_len, if_pos h]
    by_cases e : i = k
    · subst e; rw [if_pos rfl, if_pos (by lia)]
    · rw [if_neg e]
      by_cases e2 : k < i
      · rw [if_pos e2, if_pos (by lia)]
      · rw [if_neg e2, if_neg (by lia)]
  · have n1 : ∀ j, (mints (rowH y p A j))[k]? = none := fun j => List.getElem?_eq_none (by rw [rowH_len]; lia)
    rw [n1, n1, rowH_len, if_pos h, if_neg (by lia)]
theorem rowH_0 {y : Nat} {p A : List Nat} : rowH y p A 0 = rowM p A := by unfold rowH rowM; simp
theorem rowH_n {y : Nat} {p A : List Nat} : rowH y p A A.length = rowM (y :: p) A := by
  unfold rowH rowM
  exact List.map_congr_left fun k hk => by rw [if_pos (List.mem_range.mp hk)]
theorem lev_k0 {j X s : Nat} (h : s ≤ 2) : min (min (2 * j) X + 2) (2 * j + s) = min (min (2 * (j + 1) + 2) (X + 2)) (2 * j + s) := by
  have e : ∀ {a b c : Nat}, c ≤ a → min (min a b) c = min b c := fun {a b c} h => by rw [Nat.min_comm a b, Nat.min_assoc, Nat.min_eq_right h]
  rw [← Nat.add_min_add_right, e (Nat.add_le_add_left h _), e (by lia)]
theorem lev_tail (S : SetOk G) {d : Nat} {A B : List Nat} {m : Int} {x3 x4 : Option MV} {H : MH} {N : Loc → MH → Prop} {Q : MV → MH → Prop} (hA : A ≠ []) (hB : B ≠ []) (hA2 : A.length ≤ 40) (hB2 : B.length ≤ 40) (lA : ∀ x ∈ A, x ∈ letters) (lB : ∀ x ∈ B, x ∈ letters)
    (hm : m = (D B.reverse A.reverse : Nat) ∨ m + 1 = (D B.reverse A.reverse : Nat)) (hq : Q (.int (D B.reverse A.reverse : Nat)) H) :
    exs G (d + 1) b176 ki [some (.str (tx A)), some (.str (tx B)), some (.int m), x3, x4, none, none, none, none, none, none, none, none, none] H N Q := by
  have hA0 : 0 < A.length := List.length_pos_iff.mpr hA
  have hB0 : 0 < B.length := List.length_pos_iff.mpr hB
  rw [b176]
  simp only [ay,di,dk,dl,ad,az,b0,ba,bb,ae,bc,bd,bg,bh,bj,bk,af,bl,ag,bn,bp,br,bs,bt,ah,ai,bv,aj,bw,ab,ak,bx,bz,al,c6,am,dn,dp,dq,dr,c7,du,dw,dx,dy,dz,ao,ap,c8,c9,ce,aq,au,aa,cf,cj,ck,cm,co,cq,cu,av,cw,cx,cy,cz,aw,d8,d9,a9,a8,e9,ee,ew,f0,f8,f9,fb,fe,ff,fg,fh,fi,fj,fk,fo,fq,fs,ft,fu,fw,fx,da,fy,db,g0,ge,gf,gg,gh,gi,gj,gk,gl,gm,gn,gp,gq,gs,gt,gu,gv,gw,gx,gy,gz,i0,i4,i5,i6,i8,i9,ia,dc,ax,ie,ig,ii,de,dg,ij,ik,il,im,ip,iq,ir,iu,iv,iw,iy,j0,j3,j4,j5,j6,dh,j7,j8,j9,ja,jb,km,kr,ku,l5,l6,l8,l9,la,lb,ld,le,lg,li,lj,gc_i S.move,tx_len]
  have bm : ∀ k : Nat, k ≤ 100 → Builtin.Int.intBits (k : Int) ≤ 41 := fun k hk => bits_le (by lia)
  have b2 : Builtin.Int.intBits (2 : Int) ≤ 41 := bm 2 (by lia)
  refine ⟨by lia, by lia, ?_, ?_⟩
  · have : Builtin.Int.intBits ((B.length : Int) - (A.length : Int)) ≤ 41 := intBits_le (by lia)
    lia
  cases hc : decide (((B.length : Int) - (A.length : Int)) * 2 > m) with
  | true =>
    have h1 := of_decide_eq_true hc
    have h2 := D_low _ B.reverse A.reverse (Nat.le_refl _)
    rw [List.length_reverse, List.length_reverse] at h2
    simp only [b177,ay,di,dk,dl,ad,az,b0,ba,bb,ae,bc,bd,bg,bh,bj,bk,af,bl,ag,bn,bp,br,bs,bt,ah,ai,bv,aj,bw,ab,ak,bx,bz,al,c6,am,dn,dp,dq,dr,c7,du,dw,dx,dy,dz,ao,ap,c8,c9,ce,aq,au,aa,cf,cj,ck,cm,co,cq,cu,av,cw,cx,cy,cz,aw,d8,d9,a9,a8,e9,ee,ew,f0,f8,f9,fb,fe,ff,fg,fh,fi,fj,fk,fo,fq,fs,ft,fu,fw,fx,da,fy,db,g0,ge,gf,gg,gh,gi,gj,gk,gl,gm,gn,gp,gq,gs,gt,gu,gv,gw,gx,gy,gz,i0,i4,i5,i6,i8,i9,ia,dc,ax,ie,ig,ii,de,dg,ij,ik,il,im,ip,iq,ir,iu,iv,iw,iy,j0,j3,j4,j5,j6,dh,j7,j8,j9,ja,jb]
    have : m + 1 = (D B.reverse A.reverse : Nat) := by lia
    rw [this]
    exact ⟨_, .refl _, hq⟩
  | false =>
    simp only [a9]
    have e1 : (2 : Int) * ((A.length : Int) + 1) = ((2 * (A.length + 1) : Nat) : Int) := by push_cast; rfl
    have er : rangeL 2 ((2 * (A.length + 1) : Nat) : Int) 2 = mints (rowM [] A) := by
      have hs : (Builtin.Range.rangeSize 2 ((2 * (A.length + 1) : Nat) : Int) 2).toNat = A.length := by
        unfold Builtin.Range.rangeSize
        rw [if_pos (by decide), if_pos (by lia)]; lia
      unfold rangeL mints rowM
      rw [hs, List.map_map]
      refine List.map_congr_left fun k hk => ?_
      have hk2 := List.mem_range.mp hk
      simp only [Function.comp, D_nil, List.length_reverse, List.length_take]
      rw [Nat.min_eq_left (by lia)]
      congr 1
      push_cast; lia
    rw [b178]
    simp only [b179,b180,ay,di,dk,dl,ad,az,b0,ba,bb,ae,bc,bd,bg,bh,bj,bk,af,bl,ag,bn,bp,br,bs,bt,ah,ai,bv,aj,bw,ab,ak,bx,bz,al,c6,am,dn,dp,dq,dr,c7,du,dw,dx,dy,dz,ao,ap,c8,c9,ce,aq,au,aa,cf,cj,ck,cm,co,cq,cu,av,cw,cx,cy,cz,aw,d8,d9,a9,a8,e9,ee,ew,f0,f8,f9,fb,fe,ff,fg,fh,fi,fj,fk,fo,fq,fs,ft,fu,fw,fx,da,fy,db,g0,ge,gf,gg,gh,gi,gj,gk,gl,gm,gn,gp,gq,gs,gt,gu,gv,gw,gx,gy,gz,i0,i4,i5,i6,i8,i9,ia,dc,ax,ie,ig,ii,de,dg,ij,ik,il,im,ip,iq,ir,iu,iv,iw,iy,j0,j3,j4,j5,j6,dh,j7,j8,j9,ja,jb,km,kr,ku,l5,l6,l8,l9,la,lb,ld,le,lg,li,lj,gc_i S.move,tx_len,e1,er,rangeL_nat]
    refine ⟨by lia, ?_, ⟨by unfold intOk; lia, by unfold intOk; lia, by lia, by lia⟩, by unfold mints rowM; simp; lia, fun a ha => ⟨by lia, intOk_nat (by lia), ?_⟩⟩
    · have : Builtin.Int.intBits ((A.length : Int) + 1) ≤ 41 := bm (A.length + 1) (by lia)
      lia
    refine forGo_rng (fun j T => ∀ (r : Nat) (x7 x8 x9 x10 x11 x12 x13 : Option MV), (1 ≤ j → r = D (B.take j).reverse A.reverse) → T [some (.str (tx A)), some (.str (tx B)), some (.int m), x3, x4, some (.ref a), some (.int r), x7, x8, x9, x10, x11, x12, x13] ((a, mints (rowM (B.take j).reverse A)) :: H))
      (fun T h => h 0 none none none none none none none fun h => by lia) (fun r x7 x8 x9 x10 x11 x12 x13 hr => ?_) fun j hj N' hN r x7 x8 x9 x10 x11 x12 x13 hr => ?_
    · rw [List.take_length] at hr
      simp only [b194,ay,di,dk,dl,ad,az,b0,ba,bb,ae,bc,bd,bg,bh,bj,bk,af,bl,ag,bn,bp,br,bs,bt,ah,ai,bv,aj,bw,ab,ak,bx,bz,al,c6,am,dn,dp,dq,dr,c7,du,dw,dx,dy,dz,ao,ap,c8,c9,ce,aq,au,aa,cf,cj,ck,cm,co,cq,cu,av,cw,cx,cy,cz,aw,d8,d9,a9,a8,e9,ee,ew,f0,f8,f9,fb,fe,ff,fg,fh,fi,fj,fk,fo,fq,fs,ft,fu,fw,fx,da,fy,db,g0,ge,gf,gg,gh,gi,gj,gk,gl,gm,gn,gp,gq,gs,gt,gu,gv,gw,gx,gy,gz,i0,i4,i5,i6,i8,i9,ia,dc,ax,ie,ig,ii,de,dg,ij,ik,il,im,ip,iq,ir,iu,iv,iw,iy,j0,j3,j4,j5,j6,dh,j7,j8,j9,ja,jb]
      rw [hr hB0]
      exact ⟨_, List.sublist_cons_self _ _, hq⟩
    · have hlB : B[j] ∈ letters := lB _ (List.getElem_mem hj)
      have hsplit : B.reverse = (B.drop (j + 1)).reverse ++ (B[j] :: (B.take j).reverse) := by
        rw [← take_rev hj, ← List.reverse_append, List.take_append_drop]
      have hnn := fun x7 x8 x9 x10 x11 x12 x13 => hN _ x7 x8 x9 x10 x11 x12 x13 fun _ => rfl
      rw [take_rev hj] at hnn
      have hbc : (tx B).cps[j]? = some B[j] := by simp
      have hpl : (B.take j).reverse.length = j := by simp; lia
      have hrow := fun (A0 : A ≠ []) => D_rowne (x := B[j]) (p := (B.take j).reverse) (s := (B.drop (j + 1)).reverse) A0
      rw [← hsplit] at hrow
      generalize hD : D B.reverse A.reverse = DD at *
      generalize B[j] = y at *
      generalize (B.take j).reverse = p at *
      simp only [b181,ay,di,dk,dl,ad,az,b0,ba,bb,ae,bc,bd,bg,bh,bj,bk,af,bl,ag,bn,bp,br,bs,bt,ah,ai,bv,aj,bw,ab,ak,bx,bz,al,c6,am,dn,dp,dq,dr,c7,du,dw,dx,dy,dz,ao,ap,c8,c9,ce,aq,au,aa,cf,cj,ck,cm,co,cq,cu,av,cw,cx,cy,cz,aw,d8,d9,a9,a8,e9,ee,ew,f0,f8,f9,fb,fe,ff,fg,fh,fi,fj,fk,fo,fq,fs,ft,fu,fw,fx,da,fy,db,g0,ge,gf,gg,gh,gi,gj,gk,gl,gm,gn,gp,gq,gs,gt,gu,gv,gw,gx,gy,gz,i0,i4,i5,i6,i8,i9,ia,dc,ax,ie,ig,ii,de,dg,ij,ik,il,im,ip,iq,ir,iu,iv,iw,iy,j0,j3,j4,j5,j6,dh,j7,j8,j9,ja,jb,km,kr,ku,l5,l6,l8,l9,la,lb,ld,le,lg,li,lj]
      rw [ly (place_nat (by simpa using hj)) hbc]
      refine ⟨intOk_nat (by lia), ?_⟩
      simp only [b182,b183,b184,ay,di,dk,dl,ad,az,b0,ba,bb,ae,bc,bd,bg,bh,bj,bk,af,bl,ag,bn,bp,br,bs,bt,ah,ai,bv,aj,bw,ab,ak,bx,bz,al,c6,am,dn,dp,dq,dr,c7,du,dw,dx,dy,dz,ao,ap,c8,c9,ce,aq,au,aa,cf,cj,ck,cm,co,cq,cu,av,cw,cx,cy,cz,aw,d8,d9,a9,a8,e9,ee,ew,f0,f8,f9,fb,fe,ff,fg,fh,fi,fj,fk,fo,fq,fs,ft,fu,fw,fx,da,fy,db,g0,ge,gf,gg,gh,gi,gj,gk,gl,gm,gn,gp,gq,gs,gt,gu,gv,gw,gx,gy,gz,i0,i4,i5,i6,i8,i9,ia,dc,ax,ie,ig,ii,de,dg,ij,ik,il,im,ip,iq,ir,iu,iv,iw,iy,j0,j3,j4,j5,j6,dh,j7,j8,j9,ja,jb,km,kr,ku,l5,l6,l8,l9,la,lb,ld,le,lg,li,lj,gc_i S.move,tx_len,rangeL_nat]
      refine ⟨by have := bm j (by lia); lia, by lia, intOk_nat (by lia), ?_⟩
      have ej : (j : Int) * 2 = ((2 * j : Nat) : Int) := by lia
      rw [ej]
      refine forGo_rng (fun i T => ∀ (r : Nat) (mn : Int) (x11 x12 x13 : Option MV), (r = if i = 0 then 2 * j else D (y :: p) (A.take i).reverse) → (∀ k, 1 ≤ k → k ≤ i → mn ≤ (D (y :: p) (A.take k).reverse : Nat)) →
          T [some (.str (tx A)), some (.str (tx B)), some (.int m), x3, x4, some (.ref a), some (.int r), some (.int j), some (.str (sg y)), some (.int (D p (A.take i).reverse : Nat)), some (.int mn), x11, x12, x13] ((a, mints (rowH y p A i)) :: H)) (fun T h => ?_) (fun r' mn z11 z12 z13 hr' hmn => ?_) fun i hi N'' hN2 r' mn z11 z12 z13 hr' hmn => ?_
      · have hh := h (2 * j) 9223372036854775807 x11 x12 x13 (by rw [if_pos rfl]) fun k h1 h2 => by lia
        rw [rowH_0, List.take_zero, List.reverse_nil, D_nil', hpl] at hh
        exact hh
      · rw [if_neg (by lia), List.take_length] at hr'
        rw [List.take_length, rowH_n]
        simp only [b192,ay,di,dk,dl,ad,az,b0,ba,bb,ae,bc,bd,bg,bh,bj,bk,af,bl,ag,bn,bp,br,bs,bt,ah,ai,bv,aj,bw,ab,ak,bx,bz,al,c6,am,dn,dp,dq,dr,c7,du,dw,dx,dy,dz,ao,ap,c8,c9,ce,aq,au,aa,cf,cj,ck,cm,co,cq,cu,av,cw,cx,cy,cz,aw,d8,d9,a9,a8,e9,ee,ew,f0,f8,f9,fb,fe,ff,fg,fh,fi,fj,fk,fo,fq,fs,ft,fu,fw,fx,da,fy,db,g0,ge,gf,gg,gh,gi,gj,gk,gl,gm,gn,gp,gq,gs,gt,gu,gv,gw,gx,gy,gz,i0,i4,i5,i6,i8,i9,ia,dc,ax,ie,ig,ii,de,dg,ij,ik,il,im,ip,iq,ir,iu,iv,iw,iy,j0,j3,j4,j5,j6,dh,j7,j8,j9,ja,jb,km,kr,ku,l5,l6,l8,l9,la,lb,ld,le,lg,li,lj]
        cases hc2 : decide (mn > m) with
        | true =>
          have h1 := of_decide_eq_true hc2
          obtain ⟨i, i1, i2, i3⟩ := hrow hA
          have h2 := hmn i i1 i2
          simp only [b193,ay,di,dk,dl,ad,az,b0,ba,bb,ae,bc,bd,bg,bh,bj,bk,af,bl,ag,bn,bp,br,bs,bt,ah,ai,bv,aj,bw,ab,ak,bx,bz,al,c6,am,dn,dp,dq,dr,c7,du,dw,dx,dy,dz,ao,ap,c8,c9,ce,aq,au,aa,cf,cj,ck,cm,co,cq,cu,av,cw,cx,cy,cz,aw,d8,d9,a9,a8,e9,ee,ew,f0,f8,f9,fb,fe,ff,fg,fh,fi,fj,fk,fo,fq,fs,ft,fu,fw,fx,da,fy,db,g0,ge,gf,gg,gh,gi,gj,gk,gl,gm,gn,gp,gq,gs,gt,gu,gv,gw,gx,gy,gz,i0,i4,i5,i6,i8,i9,ia,dc,ax,ie,ig,ii,de,dg,ij,ik,il,im,ip,iq,ir,iu,iv,iw,iy,j0,j3,j4,j5,j6,dh,j7,j8,j9,ja,jb]
          have : m + 1 = (DD : Nat) := by lia
          rw [this]
          exact ⟨_, List.sublist_cons_self _ _, hq⟩
        | false =>
          simp only [a9]
          rw [hr']
          exact hnn _ _ _ _ _ _ _
      · have hac : (tx A).cps[i]? = some A[i] := by simp
        have hlA : A[i] ∈ letters := lA _ (List.getElem_mem hi)
        simp only [b185,ay,di,dk,dl,ad,az,b0,ba,bb,ae,bc,bd,bg,bh,bj,bk,af,bl,ag,bn,bp,br,bs,bt,ah,ai,bv,aj,bw,ab,ak,bx,bz,al,c6,am,dn,dp,dq,dr,c7,du,dw,dx,dy,dz,ao,ap,c8,c9,ce,aq,au,aa,cf,cj,ck,cm,co,cq,cu,av,cw,cx,cy,cz,aw,d8,d9,a9,a8,e9,ee,ew,f0,f8,f9,fb,fe,ff,fg,fh,fi,fj,fk,fo,fq,fs,ft,fu,fw,fx,da,fy,db,g0,ge,gf,gg,gh,gi,gj,gk,gl,gm,gn,gp,gq,gs,gt,gu,gv,gw,gx,gy,gz,i0,i4,i5,i6,i8,i9,ia,dc,ax,ie,ig,ii,de,dg,ij,ik,il,im,ip,iq,ir,iu,iv,iw,iy,j0,j3,j4,j5,j6,dh,j7,j8,j9,ja,jb,km,kr,ku,l5,l6,l8,l9,la,lb,ld,le,lg,li,lj]
        refine ⟨S.f__substitution_cost.glob, ?_⟩
        rw [ly (place_nat (by simpa using hi)) hac]
        refine ⟨intOk_nat (by lia), c_sub S (by show 1 ≤ 2 ^ 20; lia) (by show 1 ≤ 2 ^ 20; lia) ?_⟩
        have esc : subCost (sg y) ⟨#[A[i]]⟩ = (sc y A[i] : Nat) := sub_sc y hlB _ hlA
        rw [esc]
        simp only [b186,ay,di,dk,dl,ad,az,b0,ba,bb,ae,bc,bd,bg,bh,bj,bk,af,bl,ag,bn,bp,br,bs,bt,ah,ai,bv,aj,bw,ab,ak,bx,bz,al,c6,am,dn,dp,dq,dr,c7,du,dw,dx,dy,dz,ao,ap,c8,c9,ce,aq,au,aa,cf,cj,ck,cm,co,cq,cu,av,cw,cx,cy,cz,aw,d8,d9,a9,a8,e9,ee,ew,f0,f8,f9,fb,fe,ff,fg,fh,fi,fj,fk,fo,fq,fs,ft,fu,fw,fx,da,fy,db,g0,ge,gf,gg,gh,gi,gj,gk,gl,gm,gn,gp,gq,gs,gt,gu,gv,gw,gx,gy,gz,i0,i4,i5,i6,i8,i9,ia,dc,ax,ie,ig,ii,de,dg,ij,ik,il,im,ip,iq,ir,iu,iv,iw,iy,j0,j3,j4,j5,j6,dh,j7,j8,j9,ja,jb,km,kr,ku,l5,l6,l8,l9,la,lb,ld,le,lg,li,lj]
        have hg := rowH_get (y := y) (p := p) (i := i) hi
        rw [if_neg (by lia)] at hg
        rw [qe h_look (place_nat (by rw [rowH_len]; exact hi)) hg]
        refine ⟨intOk_nat (by lia), ?_⟩
        simp only [b187,b188,b189,ay,di,dk,dl,ad,az,b0,ba,bb,ae,bc,bd,bg,bh,bj,bk,af,bl,ag,bn,bp,br,bs,bt,ah,ai,bv,aj,bw,ab,ak,bx,bz,al,c6,am,dn,dp,dq,dr,c7,du,dw,dx,dy,dz,ao,ap,c8,c9,ce,aq,au,aa,cf,cj,ck,cm,co,cq,cu,av,cw,cx,cy,cz,aw,d8,d9,a9,a8,e9,ee,ew,f0,f8,f9,fb,fe,ff,fg,fh,fi,fj,fk,fo,fq,fs,ft,fu,fw,fx,da,fy,db,g0,ge,gf,gg,gh,gi,gj,gk,gl,gm,gn,gp,gq,gs,gt,gu,gv,gw,gx,gy,gz,i0,i4,i5,i6,i8,i9,ia,dc,ax,ie,ig,ii,de,dg,ij,ik,il,im,ip,iq,ir,iu,iv,iw,iy,j0,j3,j4,j5,j6,dh,j7,j8,j9,ja,jb,km,kr,ku,l5,l6,l8,l9,la,lb,ld,le,lg,li,lj,gc_i S.move]
        have key : (min (min (r' : Int) ((D p (A.take (i + 1)).reverse : Nat) : Int) + 2) (((D p (A.take i).reverse : Nat) : Int) + ((sc y A[i] : Nat) : Int))) = ((D (y :: p) (A.take (i + 1)).reverse : Nat) : Int) := by
          have kn : min (min r' (D p (A.take (i + 1)).reverse) + 2) (D p (A.take i).reverse + sc y A[i]) = D (y :: p) (A.take (i + 1)).reverse := by
            rw [hr', take_rev hi, D_cons]
            by_cases h0 : i = 0
            · subst h0
              rw [if_pos rfl, List.take_zero, List.reverse_nil, D_nil', D_nil', List.length_cons, hpl]
              exact lev_k0 (sc_le y A[0])
            · rw [if_neg h0, ← Nat.add_min_add_right]
          rw [← kn, cmin, Int.natCast_add, cmin]; rfl
        rw [key, qr h_look, rowH_len]
        refine ⟨⟨by lia, by lia, by lia⟩, ?_⟩
        rw [h_set ha, toNat_nat, rowH_set hi]
        simp only [b190,ay,di,dk,dl,ad,az,b0,ba,bb,ae,bc,bd,bg,bh,bj,bk,af,bl,ag,bn,bp,br,bs,bt,ah,ai,bv,aj,bw,ab,ak,bx,bz,al,c6,am,dn,dp,dq,dr,c7,du,dw,dx,dy,dz,ao,ap,c8,c9,ce,aq,au,aa,cf,cj,ck,cm,co,cq,cu,av,cw,cx,cy,cz,aw,d8,d9,a9,a8,e9,ee,ew,f0,f8,f9,fb,fe,ff,fg,fh,fi,fj,fk,fo,fq,fs,ft,fu,fw,fx,da,fy,db,g0,ge,gf,gg,gh,gi,gj,gk,gl,gm,gn,gp,gq,gs,gt,gu,gv,gw,gx,gy,gz,i0,i4,i5,i6,i8,i9,ia,dc,ax,ie,ig,ii,de,dg,ij,ik,il,im,ip,iq,ir,iu,iv,iw,iy,j0,j3,j4,j5,j6,dh,j7,j8,j9,ja,jb,km,kr,ku,l5,l6,l8,l9,la,lb,ld,le,lg,li,lj]
        cases hc3 : decide (((D (y :: p) (A.take (i + 1)).reverse : Nat) : Int) < mn) with
        | true =>
          have h3 := of_decide_eq_true hc3
          simp only [b191,ay,di,dk,dl,ad,az,b0,ba,bb,ae,bc,bd,bg,bh,bj,bk,af,bl,ag,bn,bp,br,bs,bt,ah,ai,bv,aj,bw,ab,ak,bx,bz,al,c6,am,dn,dp,dq,dr,c7,du,dw,dx,dy,dz,ao,ap,c8,c9,ce,aq,au,aa,cf,cj,ck,cm,co,cq,cu,av,cw,cx,cy,cz,aw,d8,d9,a9,a8,e9,ee,ew,f0,f8,f9,fb,fe,ff,fg,fh,fi,fj,fk,fo,fq,fs,ft,fu,fw,fx,da,fy,db,g0,ge,gf,gg,gh,gi,gj,gk,gl,gm,gn,gp,gq,gs,gt,gu,gv,gw,gx,gy,gz,i0,i4,i5,i6,i8,i9,ia,dc,ax,ie,ig,ii,de,dg,ij,ik,il,im,ip,iq,ir,iu,iv,iw,iy,j0,j3,j4,j5,j6,dh,j7,j8,j9,ja,jb,km,kr,ku,l5,l6,l8,l9,la,lb,ld,le,lg,li,lj]
          refine hN2 _ _ _ _ _ (by rw [if_neg (by lia)]) fun k k1 k2 => ?_
          by_cases e : k = i + 1
          · rw [e]; exact Int.le_refl _
          · have := hmn k k1 (by lia); lia
        | false =>
          have h3 := of_decide_eq_false hc3
          simp only [a9]
          refine hN2 _ _ _ _ _ (by rw [if_neg (by lia)]) fun k k1 k2 => ?_
          by_cases e : k = i + 1
          · rw [e]; lia
          · exact hmn k k1 (by lia)
end Mine
namespace Mine
variable {G : Stat}
theorem strip_pre (a b : List Nat) : ∀ p : List Nat, D (p ++ a).reverse (p ++ b).reverse = D a.reverse b.reverse
  | [] => rfl
  | x :: p => by rw [List.cons_append, List.cons_append, List.reverse_cons, List.reverse_cons, D_snoc x _ _ _ (Nat.le_refl _), strip_pre a b p]
theorem strip_suf (a b : List Nat) : ∀ s : List Nat, D (a ++ s).reverse (b ++ s).reverse = D a.reverse b.reverse := fun s => by
  rw [List.reverse_append, List.reverse_append]
  generalize s.reverse = t
  induction t with
  | nil => rfl
  | cons x t ih => rw [List.cons_append, List.cons_append, D_cancel, ih]
theorem slice_from (xs : List Nat) (n : Nat) (h : n ≤ xs.length) : sliceL xs (some (n : Int)) none = xs.drop n := by
  unfold sliceL clampS
  simp only [Option.map_some, Option.getD_some, Option.map_none, Option.getD_none, List.take_length]
  rw [if_pos (by lia), toNat_nat, Nat.min_eq_left h]
theorem slice_to (xs : List Nat) (n : Nat) (h : n ≤ xs.length) (h0 : 0 < n) : sliceL xs none (some (-(n : Int))) = xs.take (xs.length - n) := by
  unfold sliceL clampS
  simp only [Option.map_some, Option.getD_some, Option.map_none, Option.getD_none, List.drop_zero]
  rw [if_neg (by lia)]
  congr 1; lia
theorem slice_all (xs : List Nat) : sliceL xs none none = xs := by
  unfold sliceL; simp
theorem D_zero_ne {a b : List Nat} (h : a = b) : D a.reverse b.reverse = 0 := by rw [h, D_same]
theorem cut_end (G : Stat) {d : Nat} {C : Ctx} {l : Loc} {a : List Nat} {n i : Nat} {p1 p2 p3 p4 p5 p6 : Pos} {H : MH} {K : MV → MH → Prop} (hn : n ≤ a.length) (ha : a.length ≤ 2 ^ 20) (h1 : l[i]? = some (some (.str (tx a)))) (h4 : l[4]? = some (some (.int (-(n : Int)))))
    (hk : K (.str (tx (a.take (a.length - n)))) H) : ev G d (.slU (.v i p1) (.bo .Or (.cons (.v 4 p2) (.cons (.cn p3) .nil)) p4) p5 p6) C l H K := by
  simp only [af, ae, au, aq, ad, ay, h1, h4, dc]
  by_cases h0 : n = 0
  · subst h0
    have : ((-((0 : Nat) : Int)) != 0) = false := rfl
    simp only [this]
    rw [dg, slice_all]
    exact ⟨ha, by simpa using hk⟩
  · have : ((-(n : Int)) != 0) = true := by simp; lia
    simp only [this]
    rw [de]
    refine ⟨ha, ?_⟩
    have := slice_to a n hn (by lia)
    show K (.str ⟨(sliceL a none (some (-(n : Int)))).toArray⟩) H
    rw [this]; exact hk
theorem lev_cut (S : SetOk G) {d : Nat} {A B : List Nat} {m : Int} {x3 x4 : Option MV} {H : MH} {N : Loc → MH → Prop} {Q : MV → MH → Prop} (hA2 : A.length ≤ 40) (hB2 : B.length ≤ 40) (lA : ∀ x ∈ A, x ∈ letters) (lB : ∀ x ∈ B, x ∈ letters)
    (hm : m = (D B.reverse A.reverse : Nat) ∨ m + 1 = (D B.reverse A.reverse : Nat)) (hq : Q (.int (D B.reverse A.reverse : Nat)) H) :
    exs G (d + 1) b170 ki [some (.str (tx A)), some (.str (tx B)), some (.int m), x3, x4, none, none, none, none, none, none, none, none, none] H N Q := by
  have bm : ∀ k : Nat, k ≤ 100 → Builtin.Int.intBits (k : Int) ≤ 41 := fun k hk => bits_le (by lia)
  have b2 : Builtin.Int.intBits (2 : Int) ≤ 41 := bm 2 (by lia)
  have short : (A = [] ∨ B = []) → exs G (d + 1) b171 ki [some (.str (tx A)), some (.str (tx B)), some (.int m), x3, x4, none, none, none, none, none, none, none, none, none] H (fun l' H' => exs G (d + 1) b172 ki l' H' N Q) Q := fun h0 => by
    rw [b171]
    simp only [ay,di,dk,dl,ad,az,b0,ba,bb,ae,bc,bd,bg,bh,bj,bk,af,bl,ag,bn,bp,br,bs,bt,ah,ai,bv,aj,bw,ab,ak,bx,bz,al,c6,am,dn,dp,dq,dr,c7,du,dw,dx,dy,dz,ao,ap,c8,c9,ce,aq,au,aa,cf,cj,ck,cm,co,cq,cu,av,cw,cx,cy,cz,aw,d8,d9,a9,a8,e9,ee,ew,f0,f8,f9,fb,fe,ff,fg,fh,fi,fj,fk,fo,fq,fs,ft,fu,fw,fx,da,fy,db,g0,ge,gf,gg,gh,gi,gj,gk,gl,gm,gn,gp,gq,gs,gt,gu,gv,gw,gx,gy,gz,i0,i4,i5,i6,i8,i9,ia,dc,ax,ie,ig,ii,de,dg,ij,ik,il,im,ip,iq,ir,iu,iv,iw,iy,j0,j3,j4,j5,j6,dh,j7,j8,j9,ja,jb,gc_i S.move,tx_len]
    have e : (A.length : Int) + (B.length : Int) = ((A.length + B.length : Nat) : Int) := by lia
    rw [e]
    refine ⟨by lia, by lia, by have := bm (A.length + B.length) (by lia); lia, _, .refl _, ?_⟩
    have : (2 : Int) * ((A.length + B.length : Nat) : Int) = (D B.reverse A.reverse : Nat) := by
      rcases h0 with h0 | h0
      · subst h0; rw [List.reverse_nil, D_nil']; simp
      · subst h0; rw [List.reverse_nil, D_nil]; simp
    rw [this]; exact hq
  rw [b170]
  simp only [ay,di,dk,dl,ad,az,b0,ba,bb,ae,bc,bd,bg,bh,bj,bk,af,bl,ag,bn,bp,br,bs,bt,ah,ai,bv,aj,bw,ab,ak,bx,bz,al,c6,am,dn,dp,dq,dr,c7,du,dw,dx,dy,dz,ao,ap,c8,c9,ce,aq,au,aa,cf,cj,ck,cm,co,cq,cu,av,cw,cx,cy,cz,aw,d8,d9,a9,a8,e9,ee,ew,f0,f8,f9,fb,fe,ff,fg,fh,fi,fj,fk,fo,fq,fs,ft,fu,fw,fx,da,fy,db,g0,ge,gf,gg,gh,gi,gj,gk,gl,gm,gn,gp,gq,gs,gt,gu,gv,gw,gx,gy,gz,i0,i4,i5,i6,i8,i9,ia,dc,ax,ie,ig,ii,de,dg,ij,ik,il,im,ip,iq,ir,iu,iv,iw,iy,j0,j3,j4,j5,j6,dh,j7,j8,j9,ja,jb,tx_len]
  refine ⟨by lia, ?_⟩
  cases hcA : A.length == 0 with
  | true => exact short (.inl (List.length_eq_zero_iff.mp (by simpa using hcA)))
  | false =>
    refine ⟨by lia, ?_⟩
    cases hcB : B.length == 0 with
    | true => exact short (.inr (List.length_eq_zero_iff.mp (by simpa using hcB)))
    | false =>
      have nA : A ≠ [] := fun h => by rw [h] at hcA; simp at hcA
      have nB : B ≠ [] := fun h => by rw [h] at hcB; simp at hcB
      have z1 : decide ((A.length : Int) > 40) = false := decide_eq_false (by lia)
      have z2 : decide ((B.length : Int) > 40) = false := decide_eq_false (by lia)
      simp only [exs,Bool.not_not,b172,ay,di,dk,dl,ad,az,b0,ba,bb,ae,bc,bd,bg,bh,bj,bk,af,bl,ag,bn,bp,br,bs,bt,ah,ai,bv,aj,bw,ab,ak,bx,bz,al,c6,am,dn,dp,dq,dr,c7,du,dw,dx,dy,dz,ao,ap,c8,c9,ce,aq,au,aa,cf,cj,ck,cm,co,cq,cu,av,cw,cx,cy,cz,aw,d8,d9,a9,a8,e9,ee,ew,f0,f8,f9,fb,fe,ff,fg,fh,fi,fj,fk,fo,fq,fs,ft,fu,fw,fx,da,fy,db,g0,ge,gf,gg,gh,gi,gj,gk,gl,gm,gn,gp,gq,gs,gt,gu,gv,gw,gx,gy,gz,i0,i4,i5,i6,i8,i9,ia,dc,ax,ie,ig,ii,de,dg,ij,ik,il,im,ip,iq,ir,iu,iv,iw,iy,j0,j3,j4,j5,j6,dh,j7,j8,j9,ja,jb,gc_i S.max_size,tx_len,z1,z2,Bool.not_false,Bool.not_true]
      refine ⟨by lia, by lia, ?_⟩
      simp only [exs,b174,ay,di,dk,dl,ad,az,b0,ba,bb,ae,bc,bd,bg,bh,bj,bk,af,bl,ag,bn,bp,br,bs,bt,ah,ai,bv,aj,bw,ab,ak,bx,bz,al,c6,am,dn,dp,dq,dr,c7,du,dw,dx,dy,dz,ao,ap,c8,c9,ce,aq,au,aa,cf,cj,ck,cm,co,cq,cu,av,cw,cx,cy,cz,aw,d8,d9,a9,a8,e9,ee,ew,f0,f8,f9,fb,fe,ff,fg,fh,fi,fj,fk,fo,fq,fs,ft,fu,fw,fx,da,fy,db,g0,ge,gf,gg,gh,gi,gj,gk,gl,gm,gn,gp,gq,gs,gt,gu,gv,gw,gx,gy,gz,i0,i4,i5,i6,i8,i9,ia,dc,ax,ie,ig,ii,de,dg,ij,ik,il,im,ip,iq,ir,iu,iv,iw,iy,j0,j3,j4,j5,j6,dh,j7,j8,j9,ja,jb,tx_len]
      refine ⟨by lia, by lia, ?_⟩
      cases hc : decide ((B.length : Int) < (A.length : Int)) with
      | true =>
        simp only [b175,ay,di,dk,dl,ad,az,b0,ba,bb,ae,bc,bd,bg,bh,bj,bk,af,bl,ag,bn,bp,br,bs,bt,ah,ai,bv,aj,bw,ab,ak,bx,bz,al,c6,am,dn,dp,dq,dr,c7,du,dw,dx,dy,dz,ao,ap,c8,c9,ce,aq,au,aa,cf,cj,ck,cm,co,cq,cu,av,cw,cx,cy,cz,aw,d8,d9,a9,a8,e9,ee,ew,f0,f8,f9,fb,fe,ff,fg,fh,fi,fj,fk,fo,fq,fs,ft,fu,fw,fx,da,fy,db,g0,ge,gf,gg,gh,gi,gj,gk,gl,gm,gn,gp,gq,gs,gt,gu,gv,gw,gx,gy,gz,i0,i4,i5,i6,i8,i9,ia,dc,ax,ie,ig,ii,de,dg,ij,ik,il,im,ip,iq,ir,iu,iv,iw,iy,j0,j3,j4,j5,j6,dh,j7,j8,j9,ja,jb,km,kr,ku,l5,l6,l8,l9,la,lb,ld,le,lg,li,lj]
        refine ⟨⟨_, _, rfl, rfl, by decide⟩, ?_⟩
        have ec := D_comm _ B.reverse A.reverse (Nat.le_refl _)
        rw [ec] at hm hq
        exact lev_tail S nB nA hB2 hA2 lB lA hm hq
      | false =>
        simp only [a9]
        exact lev_tail S nA nB hA2 hB2 lA lB hm hq
end Mine
namespace Mine
variable {G : Stat}
theorem snoc_get {a : List Nat} {x : Nat} {s : List Nat} : (tx (a ++ [x] ++ s)).cps[(tx (a ++ [x] ++ s)).cps.size - 1 - s.length]? = some x := by
  show (a ++ [x] ++ s).toArray[_]? = _
  rw [List.getElem?_toArray]
  have : (tx (a ++ [x] ++ s)).cps.size - 1 - s.length = a.length := by simp
  rw [this, List.append_assoc, List.getElem?_append_right (Nat.le_refl _)]
  simp
theorem lev_post (S : SetOk G) {d : Nat} {a b : List Nat} {m : Int} {x3 : Option MV} {H : MH} {N : Loc → MH → Prop} {Q : MV → MH → Prop} (hA2 : a.length ≤ 40) (hB2 : b.length ≤ 40) (lA : ∀ x ∈ a, x ∈ letters) (lB : ∀ x ∈ b, x ∈ letters)
    (hm : m = (D b.reverse a.reverse : Nat) ∨ m + 1 = (D b.reverse a.reverse : Nat)) (hq : Q (.int (D b.reverse a.reverse : Nat)) H) :
    exs G (d + 1) b166 ki [some (.str (tx a)), some (.str (tx b)), some (.int m), x3, some (.int 0), none, none, none, none, none, none, none, none, none] H N Q := by
  rw [b166]
  simp only [a8]
  refine whl_ch (fun n T => ∀ a2 b2 s, a = a2 ++ s → b = b2 ++ s → a2.length ≤ n → T [some (.str (tx a)), some (.str (tx b)), some (.int m), x3, some (.int (-(s.length : Int))), none, none, none, none, none, none, none, none, none] H) a.length
    (fun T h => h a b [] (by simp) (by simp) (Nat.le_refl _)) (fun m K h a2 b2 s a1 a3 a4 => h _ _ fun T h => h a2 b2 s a1 a3 a4) fun n K hK a2 b2 s ea eb hn => ?_
  have hla : a.length = a2.length + s.length := by rw [ea, List.length_append]
  have hlb : b.length = b2.length + s.length := by rw [eb, List.length_append]
  have hta : a.take (a.length - s.length) = a2 := by rw [hla, Nat.add_sub_cancel, ea, List.take_left']; rfl
  have htb : b.take (b.length - s.length) = b2 := by rw [hlb, Nat.add_sub_cancel, eb, List.take_left']; rfl
  have done : exs G (d + 1) b168 ki [some (.str (tx a)), some (.str (tx b)), some (.int m), x3, some (.int (-(s.length : Int))), none, none, none, none, none, none, none, none, none] H N Q := by
    rw [b168]
    simp only [a8, aa]
    refine cut_end G (n := s.length) (a := a) (by lia) (by lia) rfl rfl ?_
    simp only [b169, a8, aa, km, kr, ku, l5, l6, l8, l9, la, lb, ld, le, lg, li, lj, true_and, List.set_cons_zero]
    refine cut_end G (n := s.length) (a := b) (by lia) (by lia) rfl rfl ?_
    simp only [km, kr, ku, l5, l6, l8, l9, la, lb, ld, le, lg, li, lj, true_and, List.set_cons_zero, List.set_cons_succ]
    rw [hta, htb]
    have ed : D b.reverse a.reverse = D b2.reverse a2.reverse := by rw [ea, eb, strip_suf]
    rw [ed] at hm hq
    exact lev_cut S (by lia) (by lia) (fun x hx => lA x (by rw [ea]; exact List.mem_append_left _ hx)) (fun x hx => lB x (by rw [eb]; exact List.mem_append_left _ hx)) hm hq
  simp only [al, ap, ao, c7, am]
  refine cut_end G (n := s.length) (a := a) (by lia) (by lia) rfl rfl ?_
  rw [hta, ax, tx_len]
  refine ⟨by lia, ?_⟩
  rcases List.eq_nil_or_concat a2 with h0 | ⟨a3, x, h0⟩
  · subst h0
    exact done
  · rw [List.concat_eq_append] at h0
    have z1 : (a2.length == 0) = false := by rw [h0]; simp
    rw [z1]
    simp only [Bool.not_false]
    refine cut_end G (n := s.length) (a := b) (by lia) (by lia) rfl rfl ?_
    rw [htb, ax, tx_len]
    refine ⟨by lia, ?_⟩
    rcases List.eq_nil_or_concat b2 with h1 | ⟨b3, y, h1⟩
    · subst h1
      exact done
    · rw [List.concat_eq_append] at h1
      have z2 : (b2.length == 0) = false := by rw [h1]; simp
      rw [z2]
      simp only [Bool.not_false]
      have ga : (tx a).cps[(tx a).cps.size - 1 - s.length]? = some x := by rw [ea, h0]; exact snoc_get
      have gb : (tx b).cps[(tx b).cps.size - 1 - s.length]? = some y := by rw [eb, h1]; exact snoc_get
      have ka : a2.length ≠ 0 := by simpa using z1
      have kb : b2.length ≠ 0 := by simpa using z2
      have pa : place (tx a).cps.size (-(s.length : Int) - 1) = some ((tx a).cps.size - 1 - s.length) := place_neg (by simp; lia)
      have pb : place (tx b).cps.size (-(s.length : Int) - 1) = some ((tx b).cps.size - 1 - s.length) := place_neg (by simp; lia)
      simp only [ay,di,dk,dl,ad,az,b0,ba,bb,ae,bc,bd,bg,bh,bj,bk,af,bl,ag,bn,bp,br,bs,bt,ah,ai,bv,aj,bw,ab,ak,bx,bz,al,c6,am,dn,dp,dq,dr,c7,du,dw,dx,dy,dz,ao,ap,c8,c9,ce,aq,au,aa,cf,cj,ck,cm,co,cq,cu,av,cw,cx,cy,cz,aw,d8,d9,a9,a8,e9,ee,ew,f0,f8,f9,fb,fe,ff,fg,fh,fi,fj,fk,fo,fq,fs,ft,fu,fw,fx,da,fy,db,g0,ge,gf,gg,gh,gi,gj,gk,gl,gm,gn,gp,gq,gs,gt,gu,gv,gw,gx,gy,gz,i0,i4,i5,i6,i8,i9,ia,dc,ax,ie,ig,ii,de,dg,ij,ik,il,im,ip,iq,ir,iu,iv,iw,iy,j0,j3,j4,j5,j6,dh,j7,j8,j9,ja,jb]
      rw [ly pa ga]
      refine ⟨by unfold intOk; lia, ?_⟩
      rw [ly pb gb]
      refine ⟨by unfold intOk; lia, ?_⟩
      have eb2 : ((⟨#[x]⟩ : Str) == ⟨#[y]⟩) = decide (x = y) := sg_beq _ _
      simp only [ay,di,dk,dl,ad,az,b0,ba,bb,ae,bc,bd,bg,bh,bj,bk,af,bl,ag,bn,bp,br,bs,bt,ah,ai,bv,aj,bw,ab,ak,bx,bz,al,c6,am,dn,dp,dq,dr,c7,du,dw,dx,dy,dz,ao,ap,c8,c9,ce,aq,au,aa,cf,cj,ck,cm,co,cq,cu,av,cw,cx,cy,cz,aw,d8,d9,a9,a8,e9,ee,ew,f0,f8,f9,fb,fe,ff,fg,fh,fi,fj,fk,fo,fq,fs,ft,fu,fw,fx,da,fy,db,g0,ge,gf,gg,gh,gi,gj,gk,gl,gm,gn,gp,gq,gs,gt,gu,gv,gw,gx,gy,gz,i0,i4,i5,i6,i8,i9,ia,dc,ax,ie,ig,ii,de,dg,ij,ik,il,im,ip,iq,ir,iu,iv,iw,iy,j0,j3,j4,j5,j6,dh,j7,j8,j9,ja,jb,eb2]
      by_cases hxy : x = y
      · subst hxy
        rw [decide_eq_true rfl]
        simp only [b167,ay,di,dk,dl,ad,az,b0,ba,bb,ae,bc,bd,bg,bh,bj,bk,af,bl,ag,bn,bp,br,bs,bt,ah,ai,bv,aj,bw,ab,ak,bx,bz,al,c6,am,dn,dp,dq,dr,c7,du,dw,dx,dy,dz,ao,ap,c8,c9,ce,aq,au,aa,cf,cj,ck,cm,co,cq,cu,av,cw,cx,cy,cz,aw,d8,d9,a9,a8,e9,ee,ew,f0,f8,f9,fb,fe,ff,fg,fh,fi,fj,fk,fo,fq,fs,ft,fu,fw,fx,da,fy,db,g0,ge,gf,gg,gh,gi,gj,gk,gl,gm,gn,gp,gq,gs,gt,gu,gv,gw,gx,gy,gz,i0,i4,i5,i6,i8,i9,ia,dc,ax,ie,ig,ii,de,dg,ij,ik,il,im,ip,iq,ir,iu,iv,iw,iy,j0,j3,j4,j5,j6,dh,j7,j8,j9,ja,jb,km,kr,ku,l5,l6,l8,l9,la,lb,ld,le,lg,li,lj,show (BoolOp.And == BoolOp.And) = true from rfl]
        have := hK a3.length (by rw [h0] at hn; simp at hn; lia) a3 b3 ([x] ++ s) (by rw [ea, h0]; simp) (by rw [eb, h1]; simp) (Nat.le_refl _)
        rw [show -((([x] ++ s).length : Nat) : Int) = -(s.length : Int) - 1 by simp; lia] at this
        exact this
      · rw [decide_eq_false hxy]
        exact done
theorem lev_pre (S : SetOk G) {d : Nat} {a b : List Nat} {m : Int} {H : MH} {N : Loc → MH → Prop} {Q : MV → MH → Prop} (hA2 : a.length ≤ 40) (hB2 : b.length ≤ 40) (lA : ∀ x ∈ a, x ∈ letters) (lB : ∀ x ∈ b, x ∈ letters)
    (hm : m = (D b.reverse a.reverse : Nat) ∨ m + 1 = (D b.reverse a.reverse : Nat)) (hq : Q (.int (D b.reverse a.reverse : Nat)) H) :
    exs G (d + 1) b161 ki [some (.str (tx a)), some (.str (tx b)), some (.int m), some (.int 0), none, none, none, none, none, none, none, none, none, none] H N Q := by
  rw [b161]
  simp only [a8]
  refine whl_ch (fun n T => ∀ p a2 b2, a = p ++ a2 → b = p ++ b2 → a2.length ≤ n → T [some (.str (tx a)), some (.str (tx b)), some (.int m), some (.int p.length), none, none, none, none, none, none, none, none, none, none] H) a.length
    (fun T h => h [] a b (by simp) (by simp) (Nat.le_refl _)) (fun m K h p a2 b2 a1 a3 a4 => h _ _ fun T h => h p a2 b2 a1 a3 a4) fun n K hK p a2 b2 ea eb hn => ?_
  have hla : a.length = p.length + a2.length := by rw [ea, List.length_append]
  have hlb : b.length = p.length + b2.length := by rw [eb, List.length_append]
  have hta : sliceL (tx a).cps.toList (some (p.length : Int)) none = a2 := by show sliceL a _ _ = _; rw [slice_from _ _ (by lia), ea, List.drop_left']; rfl
  have htb : sliceL (tx b).cps.toList (some (p.length : Int)) none = b2 := by show sliceL b _ _ = _; rw [slice_from _ _ (by lia), eb, List.drop_left']; rfl
  have done : exs G (d + 1) b163 ki [some (.str (tx a)), some (.str (tx b)), some (.int m), some (.int p.length), none, none, none, none, none, none, none, none, none, none] H N Q := by
    simp only [b163,b164,b165,ay,di,dk,dl,ad,az,b0,ba,bb,ae,bc,bd,bg,bh,bj,bk,af,bl,ag,bn,bp,br,bs,bt,ah,ai,bv,aj,bw,ab,ak,bx,bz,al,c6,am,dn,dp,dq,dr,c7,du,dw,dx,dy,dz,ao,ap,c8,c9,ce,aq,au,aa,cf,cj,ck,cm,co,cq,cu,av,cw,cx,cy,cz,aw,d8,d9,a9,a8,e9,ee,ew,f0,f8,f9,fb,fe,ff,fg,fh,fi,fj,fk,fo,fq,fs,ft,fu,fw,fx,da,fy,db,g0,ge,gf,gg,gh,gi,gj,gk,gl,gm,gn,gp,gq,gs,gt,gu,gv,gw,gx,gy,gz,i0,i4,i5,i6,i8,i9,ia,dc,ax,ie,ig,ii,de,dg,ij,ik,il,im,ip,iq,ir,iu,iv,iw,iy,j0,j3,j4,j5,j6,dh,j7,j8,j9,ja,jb,km,kr,ku,l5,l6,l8,l9,la,lb,ld,le,lg,li,lj,tx_len]
    rw [hta, htb]
    have ed : D b.reverse a.reverse = D b2.reverse a2.reverse := by rw [ea, eb, strip_pre]
    rw [ed] at hm hq
    exact ⟨by lia, by lia, lev_post S (by lia) (by lia) (fun x hx => lA x (by rw [ea]; exact List.mem_append_right _ hx)) (fun x hx => lB x (by rw [eb]; exact List.mem_append_right _ hx)) hm hq⟩
  simp only [ay,di,dk,dl,ad,az,b0,ba,bb,ae,bc,bd,bg,bh,bj,bk,af,bl,ag,bn,bp,br,bs,bt,ah,ai,bv,aj,bw,ab,ak,bx,bz,al,c6,am,dn,dp,dq,dr,c7,du,dw,dx,dy,dz,ao,ap,c8,c9,ce,aq,au,aa,cf,cj,ck,cm,co,cq,cu,av,cw,cx,cy,cz,aw,d8,d9,a9,a8,e9,ee,ew,f0,f8,f9,fb,fe,ff,fg,fh,fi,fj,fk,fo,fq,fs,ft,fu,fw,fx,da,fy,db,g0,ge,gf,gg,gh,gi,gj,gk,gl,gm,gn,gp,gq,gs,gt,gu,gv,gw,gx,gy,gz,i0,i4,i5,i6,i8,i9,ia,dc,ax,ie,ig,ii,de,dg,ij,ik,il,im,ip,iq,ir,iu,iv,iw,iy,j0,j3,j4,j5,j6,dh,j7,j8,j9,ja,jb,tx_len]
  rw [hta]
  refine ⟨by lia, by lia, ?_⟩
  cases a2 with
  | nil => exact done
  | cons x a3 =>
    simp only [List.length_cons, show (a3.length + 1 == 0) = false from rfl, Bool.not_false]
    rw [htb]
    refine ⟨by lia, by lia, ?_⟩
    cases b2 with
    | nil => exact done
    | cons y b3 =>
      simp only [List.length_cons, show (b3.length + 1 == 0) = false from rfl, Bool.not_false]
      have ga : (tx a).cps[p.length]? = some x := by rw [ea]; simp
      have gb : (tx b).cps[p.length]? = some y := by rw [eb]; simp
      rw [ly (place_nat (by simp; simp at hla; lia)) ga]
      refine ⟨intOk_nat (by lia), ?_⟩
      rw [ly (place_nat (by simp; simp at hlb; lia)) gb]
      refine ⟨intOk_nat (by lia), ?_⟩
      have eb2 : ((⟨#[x]⟩ : Str) == ⟨#[y]⟩) = decide (x = y) := sg_beq _ _
      simp only [ay,di,dk,dl,ad,az,b0,ba,bb,ae,bc,bd,bg,bh,bj,bk,af,bl,ag,bn,bp,br,bs,bt,ah,ai,bv,aj,bw,ab,ak,bx,bz,al,c6,am,dn,dp,dq,dr,c7,du,dw,dx,dy,dz,ao,ap,c8,c9,ce,aq,au,aa,cf,cj,ck,cm,co,cq,cu,av,cw,cx,cy,cz,aw,d8,d9,a9,a8,e9,ee,ew,f0,f8,f9,fb,fe,ff,fg,fh,fi,fj,fk,fo,fq,fs,ft,fu,fw,fx,da,fy,db,g0,ge,gf,gg,gh,gi,gj,gk,gl,gm,gn,gp,gq,gs,gt,gu,gv,gw,gx,gy,gz,i0,i4,i5,i6,i8,i9,ia,dc,ax,ie,ig,ii,de,dg,ij,ik,il,im,ip,iq,ir,iu,iv,iw,iy,j0,j3,j4,j5,j6,dh,j7,j8,j9,ja,jb,eb2]
      by_cases hxy : x = y
      · subst hxy
        rw [decide_eq_true rfl]
        simp only [b162,ay,di,dk,dl,ad,az,b0,ba,bb,ae,bc,bd,bg,bh,bj,bk,af,bl,ag,bn,bp,br,bs,bt,ah,ai,bv,aj,bw,ab,ak,bx,bz,al,c6,am,dn,dp,dq,dr,c7,du,dw,dx,dy,dz,ao,ap,c8,c9,ce,aq,au,aa,cf,cj,ck,cm,co,cq,cu,av,cw,cx,cy,cz,aw,d8,d9,a9,a8,e9,ee,ew,f0,f8,f9,fb,fe,ff,fg,fh,fi,fj,fk,fo,fq,fs,ft,fu,fw,fx,da,fy,db,g0,ge,gf,gg,gh,gi,gj,gk,gl,gm,gn,gp,gq,gs,gt,gu,gv,gw,gx,gy,gz,i0,i4,i5,i6,i8,i9,ia,dc,ax,ie,ig,ii,de,dg,ij,ik,il,im,ip,iq,ir,iu,iv,iw,iy,j0,j3,j4,j5,j6,dh,j7,j8,j9,ja,jb,km,kr,ku,l5,l6,l8,l9,la,lb,ld,le,lg,li,lj,show (BoolOp.And == BoolOp.And) = true from rfl]
        have := hK a3.length (by simp at hn; lia) (p ++ [x]) a3 b3 (by rw [ea]; simp) (by rw [eb]; simp) (Nat.le_refl _)
        rw [show (((p ++ [x]).length : Nat) : Int) = (p.length : Int) + 1 by simp] at this
        exact this
      · rw [decide_eq_false hxy]
        exact done
theorem c_lev (S : SetOk G) {d : Nat} {a b : List Nat} {m : Int} {H : MH} {Q : MV → MH → Prop} (hA2 : a.length ≤ 40) (hB2 : b.length ≤ 40) (lA : ∀ x ∈ a, x ∈ letters) (lB : ∀ x ∈ b, x ∈ letters)
    (hm : m = (D b.reverse a.reverse : Nat) ∨ m + 1 = (D b.reverse a.reverse : Nat)) (hq : Q (.int (D b.reverse a.reverse : Nat)) H) :
    Calls G (d + 2) (.fn 95) [.str (tx a), .str (tx b), .int m] [] H Q := by
  refine calls_fn S.st S.f__levenshtein_distance.fn (bd__levenshtein_distance S _ _ _) ?_
  have e : l0 ki [("a", .str (tx a)), ("b", .str (tx b)), ("max_cost", .int m)] = [some (.str (tx a)), some (.str (tx b)), some (.int m), none, none, none, none, none, none, none, none, none, none, none] := rfl
  rw [e, pf, b158]
  simp only [b160,ay,di,dk,dl,ad,az,b0,ba,bb,ae,bc,bd,bg,bh,bj,bk,af,bl,ag,bn,bp,br,bs,bt,ah,ai,bv,aj,bw,ab,ak,bx,bz,al,c6,am,dn,dp,dq,dr,c7,du,dw,dx,dy,dz,ao,ap,c8,c9,ce,aq,au,aa,cf,cj,ck,cm,co,cq,cu,av,cw,cx,cy,cz,aw,d8,d9,a9,a8,e9,ee,ew,f0,f8,f9,fb,fe,ff,fg,fh,fi,fj,fk,fo,fq,fs,ft,fu,fw,fx,da,fy,db,g0,ge,gf,gg,gh,gi,gj,gk,gl,gm,gn,gp,gq,gs,gt,gu,gv,gw,gx,gy,gz,i0,i4,i5,i6,i8,i9,ia,dc,ax,ie,ig,ii,de,dg,ij,ik,il,im,ip,iq,ir,iu,iv,iw,iy,j0,j3,j4,j5,j6,dh,j7,j8,j9,ja,jb,km,kr,ku,l5,l6,l8,l9,la,lb,ld,le,lg,li,lj]
  cases hc : (tx a == tx b) with
  | true =>
    have hab : a = b := by
      have := beq_iff_eq.mp hc
      have h2 := congrArg (fun s : Str => s.cps.toList) this
      simpa using h2
    rw [D_zero_ne hab.symm] at hq
    simp only [b159,ay,di,dk,dl,ad,az,b0,ba,bb,ae,bc,bd,bg,bh,bj,bk,af,bl,ag,bn,bp,br,bs,bt,ah,ai,bv,aj,bw,ab,ak,bx,bz,al,c6,am,dn,dp,dq,dr,c7,du,dw,dx,dy,dz,ao,ap,c8,c9,ce,aq,au,aa,cf,cj,ck,cm,co,cq,cu,av,cw,cx,cy,cz,aw,d8,d9,a9,a8,e9,ee,ew,f0,f8,f9,fb,fe,ff,fg,fh,fi,fj,fk,fo,fq,fs,ft,fu,fw,fx,da,fy,db,g0,ge,gf,gg,gh,gi,gj,gk,gl,gm,gn,gp,gq,gs,gt,gu,gv,gw,gx,gy,gz,i0,i4,i5,i6,i8,i9,ia,dc,ax,ie,ig,ii,de,dg,ij,ik,il,im,ip,iq,ir,iu,iv,iw,iy,j0,j3,j4,j5,j6,dh,j7,j8,j9,ja,jb]
    exact ⟨_, .refl _, hq⟩
  | false => exact lev_pre S hA2 hB2 lA lB hm hq
end Mine
namespace Mine
noncomputable def bsum (w : Nat) (U : Nat → Bool) : Nat → Nat
  | 0 => 0
  | n + 1 => bsum w U n + if U n then 2 ^ (w * n) else 0
theorem bsum_lt {w : Nat} (hw : 1 ≤ w) (U : Nat → Bool) : ∀ n, bsum w U n < 2 ^ (w * n)
  | 0 => by simp [bsum]
  | n + 1 => by
    have ih := bsum_lt hw U n
    have h2 : 2 ^ (w * (n + 1)) = 2 ^ (w * n) * 2 ^ w := by rw [← Nat.pow_add, Nat.mul_succ]
    have h3 : 2 ≤ 2 ^ w := Nat.le_trans (show 2 ≤ 2 ^ 1 by decide) (Nat.pow_le_pow_right (by decide) hw)
    have h4 : 2 ^ (w * n) * 2 ≤ 2 ^ (w * n) * 2 ^ w := Nat.mul_le_mul_left _ h3
    rw [bsum, h2]
    split <;> lia
theorem bsum_bit {w : Nat} (hw : 1 ≤ w) (U : Nat → Bool) : ∀ n j, (bsum w U n).testBit j = true ↔ ∃ c, c < n ∧ j = w * c ∧ U c = true
  | 0, j => by simp [bsum]
  | n + 1, j => by
    have ih := bsum_bit hw U n j
    have hlt := bsum_lt hw U n
    rw [bsum]
    by_cases hu : U n = true
    · rw [if_pos hu, Nat.add_comm]
      rcases Nat.lt_trichotomy j (w * n) with h | h | h
      · rw [Nat.testBit_two_pow_add_gt h, ih]
        constructor
        · rintro ⟨c, a, b, e⟩; exact ⟨c, by lia, b, e⟩
        · rintro ⟨c, a, b, e⟩
          refine ⟨c, ?_, b, e⟩
          rcases Nat.lt_or_ge c n with q | q
          · exact q
          · have : c = n := by lia
            subst this; lia
      · subst h
        rw [Nat.testBit_two_pow_add_eq]
        have : (bsum w U n).testBit (w * n) = false := Nat.testBit_lt_two_pow hlt
        rw [this]
        exact ⟨fun _ => ⟨n, by lia, rfl, hu⟩, fun _ => rfl⟩
      · have h5 : 2 ^ (w * n) + bsum w U n < 2 ^ j := by
          have : 2 ^ (w * n) * 2 ≤ 2 ^ j := by rw [← Nat.pow_succ]; exact Nat.pow_le_pow_right (by decide) h
          lia
        rw [Nat.testBit_lt_two_pow h5]
        constructor
        · intro q; cases q
        · rintro ⟨c, a, b, e⟩
          have : w * c ≤ w * n := Nat.mul_le_mul_left _ (by lia)
          lia
    · rw [if_neg hu, Nat.add_zero, ih]
      constructor
      · rintro ⟨c, a, b, e⟩; exact ⟨c, by lia, b, e⟩
      · rintro ⟨c, a, b, e⟩
        refine ⟨c, ?_, b, e⟩
        rcases Nat.lt_or_ge c n with q | q
        · exact q
        · have : c = n := by lia
          subst this; exact absurd e hu
theorem wmul_inj {w a b : Nat} (hw : 1 ≤ w) (h : w * a = w * b) : a = b := Nat.eq_of_mul_eq_mul_left hw h
theorem bsum_at {w : Nat} (hw : 1 ≤ w) (U : Nat → Bool) {n c : Nat} (hc : c < n) : bsum w U n / 2 ^ (w * c) % 2 = if U c then 1 else 0 := by
  have h := bsum_bit hw U n (w * c)
  have e : (bsum w U n).testBit (w * c) = decide (bsum w U n / 2 ^ (w * c) % 2 = 1) := Nat.testBit_eq_decide_div_mod_eq
  rw [e, decide_eq_true_eq] at h
  have hm := Nat.mod_two_eq_zero_or_one (bsum w U n / 2 ^ (w * c))
  by_cases hu : U c = true
  · rw [if_pos hu]; exact h.mpr ⟨c, hc, rfl, hu⟩
  · rw [if_neg hu]
    rcases hm with q | q
    · exact q
    · obtain ⟨c', _, e2, u⟩ := h.mp q
      rw [wmul_inj hw e2] at hu; exact absurd u hu
theorem bsum_or {w : Nat} (hw : 1 ≤ w) (U V : Nat → Bool) (n : Nat) : bsum w U n ||| bsum w V n = bsum w (fun c => U c || V c) n := by
  refine Nat.eq_of_testBit_eq fun j => ?_
  rw [Nat.testBit_or, Bool.eq_iff_iff, Bool.or_eq_true, bsum_bit hw, bsum_bit hw, bsum_bit hw]
  constructor
  · rintro (⟨c, a, b, e⟩ | ⟨c, a, b, e⟩)
    · exact ⟨c, a, b, by rw [e]; rfl⟩
    · exact ⟨c, a, b, by rw [e]; exact Bool.or_true _⟩
  · rintro ⟨c, a, b, e⟩
    rw [Bool.or_eq_true] at e
    rcases e with e | e
    · exact .inl ⟨c, a, b, e⟩
    · exact .inr ⟨c, a, b, e⟩
theorem bsum_congr {w : Nat} {U V : Nat → Bool} : ∀ {n : Nat}, (∀ c, c < n → U c = V c) → bsum w U n = bsum w V n
  | 0, _ => rfl
  | n + 1, h => by rw [bsum, bsum, bsum_congr fun c hc => h c (by lia), h n (by lia)]
theorem bsum_not {w : Nat} (U : Nat → Bool) : ∀ n, bsum w U n + bsum w (fun c => !U c) n = bsum w (fun _ => true) n
  | 0 => rfl
  | n + 1 => by
    have := bsum_not (w := w) U n
    rw [bsum, bsum, bsum]
    cases h : U n <;> simp <;> lia
theorem bsum_false {w : Nat} : ∀ n, bsum w (fun _ => false) n = 0
  | 0 => rfl
  | n + 1 => by rw [bsum, bsum_false n]; rfl
theorem bsum_digit {w : Nat} (hw : 1 ≤ w) (U : Nat → Bool) {n i : Nat} (hi : i < n) : bsum w U n / 2 ^ (w * i) % 2 ^ w = if U i then 1 else 0 := by
  refine Nat.eq_of_testBit_eq fun j => ?_
  rw [Bool.eq_iff_iff, Nat.testBit_mod_two_pow, Nat.testBit_div_two_pow, Bool.and_eq_true, decide_eq_true_eq, bsum_bit hw]
  constructor
  · rintro ⟨hj, c, a, b, e⟩
    have h1 : c = i := by
      have h2 : (j + w * i) / w = i := by rw [Nat.add_mul_div_left _ _ (by lia), Nat.div_eq_of_lt hj, Nat.zero_add]
      rw [b, Nat.mul_div_cancel_left _ (by lia)] at h2; exact h2
    subst h1
    have h0 : j = 0 := by lia
    rw [if_pos e, h0]; rfl
  · intro h
    by_cases hu : U i = true
    · rw [if_pos hu] at h
      have h0 : j = 0 := by
        rw [Nat.testBit_one_eq_true_iff_self_eq_zero] at h; exact h
      subst h0
      exact ⟨hw, i, hi, by simp, hu⟩
    · rw [if_neg hu] at h; simp at h
noncomputable def widths : List Nat := [1, 2, 3, 600]
noncomputable def stepsF' (w : Nat) : Nat → List Nat
  | 0 => [1]
  | k + 1 => stepsF' w k ++ (stepsF' w k).map fun s => s * (2 ^ (w * 2 ^ k) + 1)
noncomputable def okStep (w : Nat) (st : List Nat) (c : Nat) : Bool :=
  (st.getD c 0 == bsum w (fun s => s &&& c == s) 32) && (st.getD (31 - c) 0 * 2 ^ (w * c) == bsum w (fun s => c &&& s == c) 32) && (st.getD 31 0 == st.getD c 0 * st.getD (31 - c) 0)
theorem okSteps : (widths.all fun w => (List.range 32).all fun c => okStep w (stepsF' w 5) c) = true := by decide +kernel
theorem okWhole : (widths.all fun w => (stepsF' w 5).getD 31 0 == bsum w (fun _ => true) 32) = true := by decide +kernel
end Mine
namespace Mine
theorem sub_trans {x y z : Nat} (h1 : x &&& y = x) (h2 : y &&& z = y) : x &&& z = x := by
  rw [← h1, Nat.and_assoc, h2]
theorem thr (p : Nat → Prop) [DecidablePred p] : ∀ l : List Nat, l.Pairwise (fun x y => p x → p y) → ∃ t, t ≤ l.length ∧ ∀ (i x : Nat), l[i]? = some x → (p x ↔ t ≤ i)
  | [], _ => ⟨0, Nat.le_refl _, fun i x h => by simp at h⟩
  | a :: l, h => by
    rw [List.pairwise_cons] at h
    by_cases ha : p a
    · refine ⟨0, Nat.zero_le _, fun i x hx => ⟨fun _ => Nat.zero_le _, fun _ => ?_⟩⟩
      cases i with
      | zero => simp at hx; rw [← hx]; exact ha
      | succ i => exact h.1 x (List.mem_of_getElem? (by simpa using hx)) ha
    · obtain ⟨t, h1, h2⟩ := thr p l h.2
      refine ⟨t + 1, by simp; lia, fun i x hx => ?_⟩
      cases i with
      | zero => simp at hx; rw [← hx]; exact ⟨fun q => absurd q ha, fun q => by lia⟩
      | succ i =>
        have := h2 i x (by simpa using hx)
        rw [this]; lia
structure LInv (f : Nat → Bool) (done : List (List Nat)) (U D : Nat → Bool) (asked : List Nat) : Prop where
  upU : ∀ x y, y < 32 → U x = true → x &&& y = x → U y = true
  dnD : ∀ x y, x < 32 → D y = true → x &&& y = x → D x = true
  uf : ∀ x, x < 32 → U x = true → f x = true
  df : ∀ x, x < 32 → D x = true → f x = false
  kn : ∀ ch ∈ done, ∀ x ∈ ch, U x = true ∨ D x = true
  nd : asked.Nodup
  ask : ∀ x ∈ asked, ∃ ch ∈ done, x ∈ ch
structure ChainIn (done : List (List Nat)) (ch : List Nat) : Prop where
  lt : ∀ x ∈ ch, x < 32
  pw : ch.Pairwise (fun x y => x &&& y = x)
  ne : 1 ≤ ch.length
  len : ch.length ≤ 6
  nd : ch.Nodup
  dj : ∀ x ∈ ch, ∀ c ∈ done, x ∉ c
  hansel : ∀ (i x z : Nat), ch[i]? = some x → ch[i + 2]? = some z → ∃ c ∈ done, ∃ y ∈ c, x &&& y = x ∧ y &&& z = y
structure Cut (f U D : Nat → Bool) (ch : List Nat) (low spot high : Nat) : Prop where
  a : low ≤ spot
  b : spot ≤ high
  c : high ≤ ch.length
  two : high ≤ low + 2
  d : ∀ (i x : Nat), ch[i]? = some x → (D x = true ↔ i < low)
  u : ∀ (i x : Nat), ch[i]? = some x → (U x = true ↔ high ≤ i)
  f : ∀ (i x : Nat), ch[i]? = some x → (f x = true ↔ spot ≤ i)
theorem get_sub {ch : List Nat} (h : ch.Pairwise (fun x y => x &&& y = x)) {i j x y : Nat} (hi : ch[i]? = some x) (hj : ch[j]? = some y) (hij : i ≤ j) : x &&& y = x := by
  rcases Nat.lt_or_ge i j with q | q
  · obtain ⟨h1, e1⟩ := List.getElem?_eq_some_iff.mp hi
    obtain ⟨h2, e2⟩ := List.getElem?_eq_some_iff.mp hj
    have := List.pairwise_iff_getElem.mp h i j h1 h2 q
    rw [e1, e2] at this; exact this
  · have : i = j := by lia
    subst this
    rw [hi] at hj; cases hj; exact Nat.and_self x
theorem cut_of {f : Nat → Bool} {done : List (List Nat)} {U D : Nat → Bool} {asked ch : List Nat} (L : LInv f done U D asked) (C : ChainIn done ch) (hdl : ∀ c ∈ done, ∀ x ∈ c, x < 32) (fm : ∀ x y, y < 32 → f x = true → x &&& y = x → f y = true) :
    ∃ low spot high, Cut f U D ch low spot high := by
  have mem : ∀ {i x : Nat}, ch[i]? = some x → x < 32 := fun h => C.lt _ (List.mem_of_getElem? h)
  have pw : ∀ {p : Nat → Prop}, (∀ x y, x < 32 → y < 32 → x &&& y = x → p x → p y) → ch.Pairwise (fun x y => p x → p y) := fun {p} hp => by
    rw [List.pairwise_iff_getElem]
    intro i j hi hj hij
    exact hp _ _ (C.lt _ (List.getElem_mem hi)) (C.lt _ (List.getElem_mem hj)) (List.pairwise_iff_getElem.mp C.pw i j hi hj hij)
  obtain ⟨low, l1, l2⟩ := thr (fun x => D x = false) ch (pw fun x y hx hy hs hd => by
    cases h : D y with
    | false => rfl
    | true => rw [L.dnD x y hx h hs] at hd; cases hd)
  obtain ⟨high, h1, h2⟩ := thr (fun x => U x = true) ch (pw fun x y hx hy hs hd => L.upU x y hy hd hs)
  obtain ⟨spot, s1, s2⟩ := thr (fun x => f x = true) ch (pw fun x y hx hy hs hd => fm x y hy hd hs)
  have hd : ∀ (i x : Nat), ch[i]? = some x → (D x = true ↔ i < low) := fun i x h => by
    have := l2 i x h
    cases hD : D x with
    | true => rw [hD] at this; constructor
              · intro _; refine Nat.lt_of_not_le fun q => ?_
                exact Bool.noConfusion (this.mpr q)
              · intro _; rfl
    | false => rw [hD] at this; constructor
               · intro q; cases q
               · intro q; have := this.mp rfl; lia
  have a : low ≤ spot := by
    refine Nat.le_of_not_lt fun q => ?_
    obtain ⟨x, hx⟩ : ∃ x, ch[spot]? = some x := ⟨_, List.getElem?_eq_getElem (by lia)⟩
    have e1 := (hd spot x hx).mpr q
    have e2 := (s2 spot x hx).mpr (Nat.le_refl _)
    rw [L.df x (mem hx) e1] at e2; cases e2
  have b : spot ≤ high := by
    refine Nat.le_of_not_lt fun q => ?_
    obtain ⟨x, hx⟩ : ∃ x, ch[high]? = some x := ⟨_, List.getElem?_eq_getElem (by lia)⟩
    have e1 := (h2 high x hx).mpr (Nat.le_refl _)
    have e2 := (s2 high x hx).mp (L.uf x (mem hx) e1)
    lia
  refine ⟨low, spot, high, a, b, h1, ?_, hd, h2, s2⟩
  refine Nat.le_of_not_lt fun q => ?_
  obtain ⟨x, hx⟩ : ∃ x, ch[low]? = some x := ⟨_, List.getElem?_eq_getElem (by lia)⟩
  obtain ⟨z, hz⟩ : ∃ z, ch[low + 2]? = some z := ⟨_, List.getElem?_eq_getElem (by lia)⟩
  obtain ⟨c, hc, y, hy, e1, e2⟩ := C.hansel low x z hx hz
  rcases L.kn c hc y hy with g | g
  · have := (h2 _ _ hz).mp (L.upU y z (mem hz) g e2); lia
  · have := (hd _ _ hx).mp (L.dnD x y (mem hx) g e1); lia
noncomputable def nextU (U : Nat → Bool) (ch : List Nat) (spot high : Nat) : Nat → Bool := if spot < high then fun c => U c || (ch.getD spot 0 &&& c == ch.getD spot 0) else U
noncomputable def nextD (D : Nat → Bool) (ch : List Nat) (spot low : Nat) : Nat → Bool := if low < spot then fun c => D c || (c &&& ch.getD (spot - 1) 0 == c) else D
theorem step_of {f : Nat → Bool} {done : List (List Nat)} {U D : Nat → Bool} {asked ch js : List Nat} {low spot high : Nat} (L : LInv f done U D asked) (C : ChainIn done ch) (K : Cut f U D ch low spot high) (fm : ∀ x y, y < 32 → f x = true → x &&& y = x → f y = true)
    (hjn : js.Nodup) (hj : ∀ j ∈ js, low ≤ j ∧ j < high) : LInv f (done ++ [ch]) (nextU U ch spot high) (nextD D ch spot low) (asked ++ js.map fun j => ch.getD j 0) := by
  have gd : ∀ {j : Nat}, j < ch.length → ch[j]? = some (ch.getD j 0) := fun {j} h => by
    rw [List.getD_eq_getElem?_getD, List.getElem?_eq_getElem h]; rfl
  have mem : ∀ {i x : Nat}, ch[i]? = some x → x < 32 := fun h => C.lt _ (List.mem_of_getElem? h)
  have hc := K.c
  refine ⟨fun x y hy hx hs => ?_, fun x y hx hy hs => ?_, fun x hx hu => ?_, fun x hx hd => ?_, fun c hcm x hx => ?_, ?_, fun x hx => ?_⟩
  · unfold nextU at hx ⊢
    split at hx
    · rename_i hlt
      rw [if_pos hlt]
      rw [Bool.or_eq_true] at hx ⊢
      rcases hx with q | q
      · exact .inl (L.upU x y hy q hs)
      · exact .inr (by rw [beq_iff_eq] at q ⊢; exact sub_trans q hs)
    · rename_i hlt; rw [if_neg hlt]; exact L.upU x y hy hx hs
  · unfold nextD at hy ⊢
    split at hy
    · rename_i hlt
      rw [if_pos hlt]
      rw [Bool.or_eq_true] at hy ⊢
      rcases hy with q | q
      · exact .inl (L.dnD x y hx q hs)
      · exact .inr (by rw [beq_iff_eq] at q ⊢; exact sub_trans hs q)
    · rename_i hlt; rw [if_neg hlt]; exact L.dnD x y hx hy hs
  · unfold nextU at hu
    split at hu
    · rename_i hlt
      rw [Bool.or_eq_true] at hu
      rcases hu with q | q
      · exact L.uf x hx q
      · have hg := gd (j := spot) (by lia)
        exact fm _ x hx ((K.f _ _ hg).mpr (Nat.le_refl _)) (by rw [beq_iff_eq] at q; exact q)
    · exact L.uf x hx hu
  · unfold nextD at hd
    split at hd
    · rename_i hlt
      rw [Bool.or_eq_true] at hd
      rcases hd with q | q
      · exact L.df x hx q
      · have hg := gd (j := spot - 1) (by have := K.b; lia)
        rw [beq_iff_eq] at q
        cases hf : f x with
        | false => rfl
        | true =>
          have := (K.f _ _ hg).mp (fm x _ (mem hg) hf q)
          lia
    · exact L.df x hx hd
  · rcases List.mem_append.mp hcm with h | h
    · rcases L.kn c h x hx with q | q
      · left; unfold nextU; split
        · simp only [q, Bool.true_or]
        · exact q
      · right; unfold nextD; split
        · simp only [q, Bool.true_or]
        · exact q
    · rw [List.mem_singleton.mp h] at hx
      obtain ⟨i, hi⟩ := List.getElem?_of_mem hx
      have hil := (List.getElem?_eq_some_iff.mp hi).1
      rcases Nat.lt_or_ge i spot with q | q
      · right
        unfold nextD
        by_cases hl : i < low
        · have := (K.d i x hi).mpr hl
          split
          · simp only [this, Bool.true_or]
          · exact this
        · rw [if_pos (by lia)]
          have hg := gd (j := spot - 1) (by have := K.b; lia)
          have := get_sub C.pw hi hg (by lia)
          simp only [this, beq_self_eq_true, Bool.or_true]
      · left
        unfold nextU
        by_cases hh : high ≤ i
        · have := (K.u i x hi).mpr hh
          split
          · simp only [this, Bool.true_or]
          · exact this
        · rw [if_pos (by lia)]
          have hg := gd (j := spot) (by lia)
          have := get_sub C.pw hg hi q
          simp only [this, beq_self_eq_true, Bool.or_true]
  · rw [List.nodup_append]
    refine ⟨L.nd, ?_, fun x hx y hy e => ?_⟩
    · rw [List.Nodup, List.pairwise_map]
      refine hjn.imp_of_mem fun {a b} ha hb hab e => hab ?_
      have h1 := hj a ha
      have h2 := hj b hb
      have g1 := gd (j := a) (by lia)
      have g2 := gd (j := b) (by lia)
      rw [e] at g1
      exact (List.getElem?_inj (i := a) (j := b) (by lia) C.nd).mp (g1.trans g2.symm)
    · obtain ⟨j, hjm, rfl⟩ := List.mem_map.mp hy
      obtain ⟨c, hc2, hx2⟩ := L.ask x hx
      have h1 := hj j hjm
      have g1 := gd (j := j) (by lia)
      exact C.dj _ (List.mem_of_getElem? g1) c hc2 (e ▸ hx2)
  · rcases List.mem_append.mp hx with h | h
    · obtain ⟨c, h1, h2⟩ := L.ask x h
      exact ⟨c, List.mem_append_left _ h1, h2⟩
    · obtain ⟨j, hjm, rfl⟩ := List.mem_map.mp h
      have h1 := hj j hjm
      have g1 := gd (j := j) (by lia)
      exact ⟨ch, List.mem_append_right _ (.head _), List.mem_of_getElem? g1⟩
end Mine
namespace Mine
variable {G : Stat}
theorem stepsF_eq (w : Nat) : ∀ k, stepsF w k = stepsF' w k
  | 0 => rfl
  | k + 1 => by rw [stepsF, stepsF', stepsF_eq w k]
theorem stepsF_pos (w : Nat) : ∀ k, ∀ s ∈ stepsF w k, 1 ≤ s
  | 0, s, h => by simp [stepsF] at h; lia
  | k + 1, s, h => by
    rw [stepsF] at h
    rcases List.mem_append.mp h with q | q
    · exact stepsF_pos w k s q
    · obtain ⟨u, hu, rfl⟩ := List.mem_map.mp q
      exact Nat.mul_pos (stepsF_pos w k u hu) (Nat.succ_pos _)
theorem w_facts {w : Nat} (h : w ∈ widths) : 1 ≤ w ∧ w ≤ 600 := by
  simp [widths] at h; lia
theorem steps_get {w c : Nat} (hc : c < 32) : (mints (stepsF w 5))[c]? = some (.int ((stepsF w 5).getD c 0 : Nat)) := by
  have hl : c < (stepsF w 5).length := by rw [stepsF_len]; lia
  rw [List.getElem?_map, List.getD_eq_getElem?_getD, List.getElem?_eq_getElem hl]; rfl
theorem steps_facts {w c : Nat} (h : w ∈ widths) (hc : c < 32) : (stepsF w 5).getD c 0 = bsum w (fun s => s &&& c == s) 32 ∧ (stepsF w 5).getD (31 - c) 0 * 2 ^ (w * c) = bsum w (fun s => c &&& s == c) 32 ∧
    (stepsF w 5).getD 31 0 = (stepsF w 5).getD c 0 * (stepsF w 5).getD (31 - c) 0 ∧ 1 ≤ (stepsF w 5).getD c 0 ∧ (stepsF w 5).getD c 0 < 2 ^ (w * 32) := by
  have := List.all_eq_true.mp (List.all_eq_true.mp okSteps w h) c (List.mem_range.mpr hc)
  rw [← stepsF_eq] at this
  unfold okStep at this
  simp only [Bool.and_eq_true, beq_iff_eq] at this
  have hl : c < (stepsF w 5).length := by rw [stepsF_len]; lia
  have e : (stepsF w 5).getD c 0 = (stepsF w 5)[c] := by rw [List.getD_eq_getElem?_getD, List.getElem?_eq_getElem hl]; rfl
  refine ⟨this.1.1, this.1.2, this.2, ?_, ?_⟩
  · rw [e]; exact stepsF_pos w 5 _ (List.getElem_mem hl)
  · rw [e]; exact stepsF_lt (w_facts h).1 5 _ (List.getElem_mem hl)
theorem whole_eq {w : Nat} (h : w ∈ widths) : (stepsF w 5).getD 31 0 = bsum w (fun _ => true) 32 := by
  have := List.all_eq_true.mp okWhole w h
  rw [← stepsF_eq] at this
  exact beq_iff_eq.mp this
structure Par where
  sc : List Int
  tot : Int
  w : Nat
  ss : List Nat
  cs : List Nat
  a : Addr
structure Par.Ok (p : Par) : Prop where
  w : p.w ∈ widths
  s5 : p.ss.length = 5
  sl : ∀ x ∈ p.ss, x ∈ letters
  cs : p.cs ∈ allWords
noncomputable def Par.f (p : Par) : Nat → Bool := fun c => p.cs.isSublist (hs p.ss c)
noncomputable abbrev LL (p : Par) (y n : Nat) (v7 v8 v9 v10 v11 v12 v13 v14 v15 v16 v17 : Option MV) : Loc :=
  [some (.list (p.sc.map .int)), some (.int p.tot), some (.int p.w), some (.list (mints (stepsF p.w 5))), some (.int ((stepsF p.w 5).getD 31 0 : Nat)), some (.int y), some (.int n), v7, v8, v9, v10, v11, v12, v13, v14, v15, v16, v17, none, none, none, none, none, none, some (.ref p.a), some (.list (mtxs (heldF p.ss))), some (.str (tx p.cs))]
theorem law_255 (S : SetOk G) {p : Par} (ok : p.Ok) {d y : Nat} {D : Nat → Bool} {ch : List Nat} {low spot : Nat} {v8 v9 v11 v12 v14 v15 v16 v17 : Option MV} {H : MH} {N : Loc → MH → Prop} {R : MV → MH → Prop} (hs2 : spot ≤ ch.length) (hch : ∀ x ∈ ch, x < 32) (hl : ch.length ≤ 6)
    (hN : N (LL p y (bsum p.w (nextD D ch spot low) 32) (some (.list (mints ch))) v8 v9 (some (.int low)) v11 v12 (some (.int spot)) v14 v15 v16 v17) H) :
    exs G d b255 jc (LL p y (bsum p.w D 32) (some (.list (mints ch))) v8 v9 (some (.int low)) v11 v12 (some (.int spot)) v14 v15 v16 v17) H N R := by
  rw [b255]
  simp only [LL,ay,di,dk,dl,ad,az,b0,ba,bb,ae,bc,bd,bg,bh,bj,bk,af,bl,ag,bn,bp,br,bs,bt,ah,ai,bv,aj,bw,ab,ak,bx,bz,al,c6,am,dn,dp,dq,dr,c7,du,dw,dx,dy,dz,ao,ap,c8,c9,ce,aq,au,aa,cf,cj,ck,cm,co,cq,cu,av,cw,cx,cy,cz,aw,d8,d9,a9,a8,e9,ee,ew,f0,f8,f9,fb,fe,ff,fg,fh,fi,fj,fk,fo,fq,fs,ft,fu,fw,fx,da,fy,db,g0,ge,gf,gg,gh,gi,gj,gk,gl,gm,gn,gp,gq,gs,gt,gu,gv,gw,gx,gy,gz,i0,i4,i5,i6,i8,i9,ia,dc,ax,ie,ig,ii,de,dg,ij,ik,il,im,ip,iq,ir,iu,iv,iw,iy,j0,j3,j4,j5,j6,dh,j7,j8,j9,ja,jb]
  unfold nextD at hN
  cases hc : decide ((spot : Int) > (low : Int)) with
  | false =>
    rw [if_neg (by have := of_decide_eq_false hc; lia)] at hN
    exact hN
  | true =>
    have h1 := of_decide_eq_true hc
    rw [if_pos (by lia)] at hN
    have hi : spot - 1 < ch.length := by lia
    have hg : ch[spot - 1]? = some (ch.getD (spot - 1) 0) := by rw [List.getD_eq_getElem?_getD, List.getElem?_eq_getElem hi]; rfl
    have hg2 : (mints ch)[spot - 1]? = some (.int (ch.getD (spot - 1) 0 : Nat)) := by rw [List.getElem?_map, hg]; rfl
    have hc32 := hch _ (List.mem_of_getElem? hg)
    generalize ch.getD (spot - 1) 0 = c at *
    have e1 : (spot : Int) - 1 = ((spot - 1 : Nat) : Int) := by lia
    simp only [b256,ay,di,dk,dl,ad,az,b0,ba,bb,ae,bc,bd,bg,bh,bj,bk,af,bl,ag,bn,bp,br,bs,bt,ah,ai,bv,aj,bw,ab,ak,bx,bz,al,c6,am,dn,dp,dq,dr,c7,du,dw,dx,dy,dz,ao,ap,c8,c9,ce,aq,au,aa,cf,cj,ck,cm,co,cq,cu,av,cw,cx,cy,cz,aw,d8,d9,a9,a8,e9,ee,ew,f0,f8,f9,fb,fe,ff,fg,fh,fi,fj,fk,fo,fq,fs,ft,fu,fw,fx,da,fy,db,g0,ge,gf,gg,gh,gi,gj,gk,gl,gm,gn,gp,gq,gs,gt,gu,gv,gw,gx,gy,gz,i0,i4,i5,i6,i8,i9,ia,dc,ax,ie,ig,ii,de,dg,ij,ik,il,im,ip,iq,ir,iu,iv,iw,iy,j0,j3,j4,j5,j6,dh,j7,j8,j9,ja,jb,jd,je,jf,jg,jh,ji,jj,jk,jl,jm,jn,jo,jp,jq,jr,jt,ju,jv,jw,jx,jy,jz,k0,k7,k8,k9,kg,e1]
    rw [kh (place_nat (by rw [List.length_map]; exact hi)) hg2]
    refine ⟨intOk_nat (by lia), ?_⟩
    rw [kh (place_nat (by rw [List.length_map, stepsF_len]; lia)) (steps_get hc32)]
    refine ⟨intOk_nat (by lia), ?_⟩
    simp only [ay,di,dk,dl,ad,az,b0,ba,bb,ae,bc,bd,bg,bh,bj,bk,af,bl,ag,bn,bp,br,bs,bt,ah,ai,bv,aj,bw,ab,ak,bx,bz,al,c6,am,dn,dp,dq,dr,c7,du,dw,dx,dy,dz,ao,ap,c8,c9,ce,aq,au,aa,cf,cj,ck,cm,co,cq,cu,av,cw,cx,cy,cz,aw,d8,d9,a9,a8,e9,ee,ew,f0,f8,f9,fb,fe,ff,fg,fh,fi,fj,fk,fo,fq,fs,ft,fu,fw,fx,da,fy,db,g0,ge,gf,gg,gh,gi,gj,gk,gl,gm,gn,gp,gq,gs,gt,gu,gv,gw,gx,gy,gz,i0,i4,i5,i6,i8,i9,ia,dc,ax,ie,ig,ii,de,dg,ij,ik,il,im,ip,iq,ir,iu,iv,iw,iy,j0,j3,j4,j5,j6,dh,j7,j8,j9,ja,jb,jd,je,jf,jg,jh,ji,jj,jk,jl,jm,jn,jo,jp,jq,jr,jt,ju,jv,jw,jx,jy,jz,k0,k7,k8,k9,kg]
    rw [or_nat, (steps_facts ok.w hc32).1, bsum_or (w_facts ok.w).1]
    exact hN
theorem idm_fact {s : Int} {A T : Nat} (hs : s = 1 ∨ s = -1) (hA : 1 ≤ A) : (s * (((A * T : Nat) : Int) + 1)).fdiv (-s * (A : Int)) = -(T : Int) - 1 ∧ (s * (((A * T : Nat) : Int) + 1)).fmod (-s * (A : Int)) = s * (1 - (A : Int)) := by
  have key : (-(((A * T : Nat) : Int) + 1)).fdiv (A : Int) = -(T : Int) - 1 ∧ (-(((A * T : Nat) : Int) + 1)).fmod (A : Int) = (A : Int) - 1 := by
    have e : (-(T : Int) - 1) * (A : Int) + ((A : Int) - 1) = -(((A * T : Nat) : Int) + 1) := by
      rw [Int.natCast_mul, Int.sub_mul, Int.neg_mul, Int.mul_comm (T : Int)]; lia
    obtain ⟨e3, e4⟩ := ediv_unique e (by lia) (by lia)
    rw [Int.fdiv_eq_ediv_of_nonneg _ (by lia), Int.fmod_eq_emod_of_nonneg _ (by lia)]
    exact ⟨e3, e4⟩
  rcases hs with rfl | rfl
  · have e1 := neg_fdiv ((1 : Int) * (((A * T : Nat) : Int) + 1)) (-1 * (A : Int))
    have e2 := neg_fmod ((1 : Int) * (((A * T : Nat) : Int) + 1)) (-1 * (A : Int))
    have n1 : -((1 : Int) * (((A * T : Nat) : Int) + 1)) = -(((A * T : Nat) : Int) + 1) := by lia
    have n2 : -(-1 * (A : Int)) = (A : Int) := by lia
    rw [n1, n2, key.1] at e1
    rw [n1, n2, key.2] at e2
    exact ⟨e1.symm, by lia⟩
  · have n1 : (-1 : Int) * (((A * T : Nat) : Int) + 1) = -(((A * T : Nat) : Int) + 1) := by lia
    have n2 : -(-1 : Int) * (A : Int) = (A : Int) := by lia
    rw [n1, n2]
    exact ⟨key.1, by rw [key.2]; lia⟩
theorem c_idms (S : SetOk G) {s : Int} {A T W k : Nat} {H : MH} {Q : MV → MH → Prop} (hs : s = 1 ∨ s = -1) (hA : 1 ≤ A) (hW : W = A * T) (hk : k ≤ 19200) (h1 : A < 2 ^ k) (h2 : W < 2 ^ k) (hq : Q (.tup [.int (-(T : Int) - 1), .int (s * (1 - (A : Int)))]) H) :
    Calls G 27 (.fn 74) [.int (s * ((W : Int) + 1)), .int (-s * (A : Int))] [] H Q := by
  subst hW
  obtain ⟨g1, g2⟩ := idm_fact (T := T) hs hA
  have hP : ∀ m : Nat, m < 2 ^ k * 2 → Builtin.Int.intBits (m : Int) ≤ 2 ^ 18 := fun m hm => Nat.le_trans (bits_le (n := m) (k := k + 1) (by rw [Nat.pow_succ]; exact hm)) (Nat.le_trans (Nat.succ_le_succ hk) (by decide))
  generalize 2 ^ k = P0 at *
  have hsA : -s * (A : Int) ≠ 0 := by rcases hs with h | h <;> subst h <;> lia
  refine c_idm S hP hsA ?_ ?_ ?_
  · rcases hs with h | h <;> subst h <;> lia
  · rcases hs with h | h <;> subst h <;> lia
  rw [g1, g2]; exact hq
theorem law_248 (S : SetOk G) {p : Par} (ok : p.Ok) {U D : Nat → Bool} {ch : List Nat} {low spot high : Nat} {v8 v9 v12 v14 v15 v16 v17 : Option MV} {H : MH} {N : Loc → MH → Prop} {R : MV → MH → Prop} (hb : spot ≤ high) (hs2 : high ≤ ch.length) (hch : ∀ x ∈ ch, x < 32) (hl : ch.length ≤ 6)
    (hN : ∀ v14 v15 v16 v17, N (LL p (bsum p.w (nextU U ch spot high) 32) (bsum p.w (nextD D ch spot low) 32) (some (.list (mints ch))) v8 v9 (some (.int low)) (some (.int high)) v12 (some (.int spot)) v14 v15 v16 v17) H) :
    exs G 27 b248 jc (LL p (bsum p.w U 32) (bsum p.w D 32) (some (.list (mints ch))) v8 v9 (some (.int low)) (some (.int high)) v12 (some (.int spot)) v14 v15 v16 v17) H N R := by
  rw [b248]
  simp only [ay,di,dk,dl,ad,az,b0,ba,bb,ae,bc,bd,bg,bh,bj,bk,af,bl,ag,bn,bp,br,bs,bt,ah,ai,bv,aj,bw,ab,ak,bx,bz,al,c6,am,dn,dp,dq,dr,c7,du,dw,dx,dy,dz,ao,ap,c8,c9,ce,aq,au,aa,cf,cj,ck,cm,co,cq,cu,av,cw,cx,cy,cz,aw,d8,d9,a9,a8,e9,ee,ew,f0,f8,f9,fb,fe,ff,fg,fh,fi,fj,fk,fo,fq,fs,ft,fu,fw,fx,da,fy,db,g0,ge,gf,gg,gh,gi,gj,gk,gl,gm,gn,gp,gq,gs,gt,gu,gv,gw,gx,gy,gz,i0,i4,i5,i6,i8,i9,ia,dc,ax,ie,ig,ii,de,dg,ij,ik,il,im,ip,iq,ir,iu,iv,iw,iy,j0,j3,j4,j5,j6,dh,j7,j8,j9,ja,jb]
  cases hc : decide ((spot : Int) < (high : Int)) with
  | false =>
    have h1 := of_decide_eq_false hc
    simp only [a9]
    refine law_255 S ok (by lia) hch hl ?_
    have := hN v14 v15 v16 v17
    unfold nextU at this
    rw [if_neg (by lia)] at this
    exact this
  | true =>
    have h1 := of_decide_eq_true hc
    have hi : spot < ch.length := by lia
    have hg : ch[spot]? = some (ch.getD spot 0) := by rw [List.getD_eq_getElem?_getD, List.getElem?_eq_getElem hi]; rfl
    have hg2 : (mints ch)[spot]? = some (.int (ch.getD spot 0 : Nat)) := by rw [List.getElem?_map, hg]; rfl
    have hc32 := hch _ (List.mem_of_getElem? hg)
    have hnn := hN
    unfold nextU at hnn
    rw [if_pos (by lia)] at hnn
    generalize ch.getD spot 0 = c at *
    obtain ⟨f1, f2, f3, f4, f5⟩ := steps_facts ok.w hc32
    have f6 := (steps_facts ok.w (show 31 - c < 32 by lia)).2.2.2.2
    have f7 := (steps_facts ok.w (show 31 < 32 by lia)).2.2.2.2
    obtain ⟨w1, w2⟩ := w_facts ok.w
    simp only [b249,ay,di,dk,dl,ad,az,b0,ba,bb,ae,bc,bd,bg,bh,bj,bk,af,bl,ag,bn,bp,br,bs,bt,ah,ai,bv,aj,bw,ab,ak,bx,bz,al,c6,am,dn,dp,dq,dr,c7,du,dw,dx,dy,dz,ao,ap,c8,c9,ce,aq,au,aa,cf,cj,ck,cm,co,cq,cu,av,cw,cx,cy,cz,aw,d8,d9,a9,a8,e9,ee,ew,f0,f8,f9,fb,fe,ff,fg,fh,fi,fj,fk,fo,fq,fs,ft,fu,fw,fx,da,fy,db,g0,ge,gf,gg,gh,gi,gj,gk,gl,gm,gn,gp,gq,gs,gt,gu,gv,gw,gx,gy,gz,i0,i4,i5,i6,i8,i9,ia,dc,ax,ie,ig,ii,de,dg,ij,ik,il,im,ip,iq,ir,iu,iv,iw,iy,j0,j3,j4,j5,j6,dh,j7,j8,j9,ja,jb,jd,je,jf,jg,jh,ji,jj,jk,jl,jm,jn,jo,jp,jq,jr,jt,ju,jv,jw,jx,jy,jz,k0,k7,k8,k9,kg]
    rw [kh (place_nat (by rw [List.length_map]; exact hi)) hg2]
    refine ⟨intOk_nat (by lia), ?_⟩
    have em : (c : Int).fmod 2 = ((c % 2 : Nat) : Int) := fmod_nat c 2
    have hside : ∃ s : Int, (1 : Int) - 2 * ((c % 2 : Nat) : Int) = s ∧ (s = 1 ∨ s = -1) := ⟨_, rfl, by lia⟩
    obtain ⟨s, es, hs⟩ := hside
    have hw32 : p.w * 32 ≤ 19200 := by lia
    have hwc : p.w * c ≤ 19200 := Nat.le_trans (Nat.mul_le_mul_left _ (by lia)) hw32
    have bS : Builtin.Int.intBits s ≤ 1 := by rcases hs with h | h <;> subst h <;> decide
    have bS2 : Builtin.Int.intBits (-s) ≤ 1 := by rcases hs with h | h <;> subst h <;> decide
    have b2 : Builtin.Int.intBits (2 : Int) ≤ 2 := by decide
    have bm2 : Builtin.Int.intBits ((c % 2 : Nat) : Int) ≤ 1 := bits_le (by lia)
    simp only [b250,b251,ay,di,dk,dl,ad,az,b0,ba,bb,ae,bc,bd,bg,bh,bj,bk,af,bl,ag,bn,bp,br,bs,bt,ah,ai,bv,aj,bw,ab,ak,bx,bz,al,c6,am,dn,dp,dq,dr,c7,du,dw,dx,dy,dz,ao,ap,c8,c9,ce,aq,au,aa,cf,cj,ck,cm,co,cq,cu,av,cw,cx,cy,cz,aw,d8,d9,a9,a8,e9,ee,ew,f0,f8,f9,fb,fe,ff,fg,fh,fi,fj,fk,fo,fq,fs,ft,fu,fw,fx,da,fy,db,g0,ge,gf,gg,gh,gi,gj,gk,gl,gm,gn,gp,gq,gs,gt,gu,gv,gw,gx,gy,gz,i0,i4,i5,i6,i8,i9,ia,dc,ax,ie,ig,ii,de,dg,ij,ik,il,im,ip,iq,ir,iu,iv,iw,iy,j0,j3,j4,j5,j6,dh,j7,j8,j9,ja,jb,jd,je,jf,jg,jh,ji,jj,jk,jl,jm,jn,jo,jp,jq,jr,jt,ju,jv,jw,jx,jy,jz,k0,k7,k8,k9,kg,em,es]
    refine ⟨by decide, by lia, S.f_int_divmod.glob, ?_, ?_⟩
    · have : Builtin.Int.intBits (((stepsF p.w 5).getD 31 0 : Nat) + 1 : Int) ≤ p.w * 32 + 1 := bits_le (n := (stepsF p.w 5).getD 31 0 + 1) (k := p.w * 32 + 1) (by rw [Nat.pow_succ]; lia)
      lia
    rw [kh (place_nat (by rw [List.length_map, stepsF_len]; lia)) (steps_get hc32)]
    refine ⟨intOk_nat (by lia), ?_⟩
    have bA := bits_le f5
    have bT := bits_le f6
    have b1A : Builtin.Int.intBits (1 - ((stepsF p.w 5).getD c 0 : Nat) : Int) ≤ p.w * 32 := intBits_le (by lia)
    rw [db]
    refine ⟨by lia, c_idms S hs f4 f3 hw32 f5 f7 ?_⟩
    simp only [jd, je, jf, jg, jh, ji, jj, jk, jl, jm, jn, jo, jp, jq, jr, jt, ju, jv, jw, jx, jy, jz, k0, k7, k8, k9, kg, true_and, List.set_cons_succ, List.set_cons_zero]
    rw [b252]
    simp only [ay,di,dk,dl,ad,az,b0,ba,bb,ae,bc,bd,bg,bh,bj,bk,af,bl,ag,bn,bp,br,bs,bt,ah,ai,bv,aj,bw,ab,ak,bx,bz,al,c6,am,dn,dp,dq,dr,c7,du,dw,dx,dy,dz,ao,ap,c8,c9,ce,aq,au,aa,cf,cj,ck,cm,co,cq,cu,av,cw,cx,cy,cz,aw,d8,d9,a9,a8,e9,ee,ew,f0,f8,f9,fb,fe,ff,fg,fh,fi,fj,fk,fo,fq,fs,ft,fu,fw,fx,da,fy,db,g0,ge,gf,gg,gh,gi,gj,gk,gl,gm,gn,gp,gq,gs,gt,gu,gv,gw,gx,gy,gz,i0,i4,i5,i6,i8,i9,ia,dc,ax,ie,ig,ii,de,dg,ij,ik,il,im,ip,iq,ir,iu,iv,iw,iy,j0,j3,j4,j5,j6,dh,j7,j8,j9,ja,jb]
    rw [kh (place_nat (by rw [List.length_map, stepsF_len]; lia)) (steps_get hc32)]
    refine ⟨intOk_nat (by lia), ?_⟩
    simp only [ay,di,dk,dl,ad,az,b0,ba,bb,ae,bc,bd,bg,bh,bj,bk,af,bl,ag,bn,bp,br,bs,bt,ah,ai,bv,aj,bw,ab,ak,bx,bz,al,c6,am,dn,dp,dq,dr,c7,du,dw,dx,dy,dz,ao,ap,c8,c9,ce,aq,au,aa,cf,cj,ck,cm,co,cq,cu,av,cw,cx,cy,cz,aw,d8,d9,a9,a8,e9,ee,ew,f0,f8,f9,fb,fe,ff,fg,fh,fi,fj,fk,fo,fq,fs,ft,fu,fw,fx,da,fy,db,g0,ge,gf,gg,gh,gi,gj,gk,gl,gm,gn,gp,gq,gs,gt,gu,gv,gw,gx,gy,gz,i0,i4,i5,i6,i8,i9,ia,dc,ax,ie,ig,ii,de,dg,ij,ik,il,im,ip,iq,ir,iu,iv,iw,iy,j0,j3,j4,j5,j6,dh,j7,j8,j9,ja,jb,beq_self_eq_true,Bool.not_true]
    refine ⟨by lia, ?_⟩
    have eT : (-(1 : Int) - (-((stepsF p.w 5).getD (31 - c) 0 : Nat) - 1 : Int)) = ((stepsF p.w 5).getD (31 - c) 0 : Nat) := by lia
    have ewc : (p.w : Int) * (c : Int) = ((p.w * c : Nat) : Int) := by push_cast; rfl
    simp only [b254,ay,di,dk,dl,ad,az,b0,ba,bb,ae,bc,bd,bg,bh,bj,bk,af,bl,ag,bn,bp,br,bs,bt,ah,ai,bv,aj,bw,ab,ak,bx,bz,al,c6,am,dn,dp,dq,dr,c7,du,dw,dx,dy,dz,ao,ap,c8,c9,ce,aq,au,aa,cf,cj,ck,cm,co,cq,cu,av,cw,cx,cy,cz,aw,d8,d9,a9,a8,e9,ee,ew,f0,f8,f9,fb,fe,ff,fg,fh,fi,fj,fk,fo,fq,fs,ft,fu,fw,fx,da,fy,db,g0,ge,gf,gg,gh,gi,gj,gk,gl,gm,gn,gp,gq,gs,gt,gu,gv,gw,gx,gy,gz,i0,i4,i5,i6,i8,i9,ia,dc,ax,ie,ig,ii,de,dg,ij,ik,il,im,ip,iq,ir,iu,iv,iw,iy,j0,j3,j4,j5,j6,dh,j7,j8,j9,ja,jb,jd,je,jf,jg,jh,ji,jj,jk,jl,jm,jn,jo,jp,jq,jr,jt,ju,jv,jw,jx,jy,jz,k0,k7,k8,k9,kg,eT,ewc]
    refine ⟨small_mul (by lia) (by lia), ⟨by lia, by lia⟩, ?_⟩
    rw [toNat_nat, shl_nat, f2, or_nat, bsum_or w1]
    exact law_255 S ok (by lia) hch hl (hnn _ _ _ _)
end Mine
namespace Mine
variable {G : Stat}
theorem pigeon : ∀ (n : Nat) (l : List Nat), l.Nodup → (∀ x ∈ l, x < n) → l.length ≤ n
  | 0, l, _, h => by
    cases l with
    | nil => exact Nat.le_refl _
    | cons a r => have := h a (.head _); lia
  | n + 1, l, hn, h => by
    by_cases hm : n ∈ l
    · have h1 := pigeon n (l.erase n) (hn.erase n) fun x hx => by
        have := (List.Nodup.mem_erase_iff hn).mp hx
        have := h x this.2; lia
      rw [List.length_erase_of_mem hm] at h1; lia
    · have h1 := pigeon n l hn fun x hx => by
        have := h x hx
        have : x ≠ n := fun e => hm (e ▸ hx)
        lia
      lia
theorem allInt_mints (l : List Nat) : allInt (mints l) = some (l.map fun (k : Nat) => (k : Int)) := by
  have : mints l = (l.map fun (k : Nat) => (k : Int)).map .int := by unfold mints; rw [List.map_map]; rfl
  rw [this, allInt_map]
theorem count_cast {l : List Nat} (h : l.Nodup) (x : Int) : (l.map fun (k : Nat) => (k : Int)).count x ≤ 1 := by
  have : (l.map fun (k : Nat) => (k : Int)).Nodup := by
    rw [List.Nodup, List.pairwise_map]
    exact h.imp fun {a b} hab e => hab (by lia)
  exact List.nodup_iff_count.mp this x
theorem slice_mid {α : Type} (xs : List α) (lo hi : Nat) (h : hi ≤ xs.length) (h2 : lo ≤ xs.length) : sliceL xs (some (lo : Int)) (some (hi : Int)) = (xs.take hi).drop lo := by
  unfold sliceL clampS
  simp only [Option.map_some, Option.getD_some]
  rw [if_pos (by lia), if_pos (by lia), toNat_nat, toNat_nat, Nat.min_eq_left h, Nat.min_eq_left h2]
theorem slice_from' {α : Type} (xs : List α) (n : Nat) (h : n ≤ xs.length) : sliceL xs (some (n : Int)) none = xs.drop n := by
  unfold sliceL clampS
  simp only [Option.map_some, Option.getD_some, Option.map_none, Option.getD_none, List.take_length]
  rw [if_pos (by lia), toNat_nat, Nat.min_eq_left h]
theorem law_246 (S : SetOk G) {p : Par} {d y n : Nat} {ch asked js : List Nat} {low high : Nat} {v8 v9 v13 v14 v15 v16 v17 : Option MV} {N : Loc → MH → Prop} {R : MV → MH → Prop} (h2 : high ≤ low + 2) (hlow : low ≤ high) (hs2 : high ≤ ch.length) (hl : ch.length ≤ 6)
    (hj : ∀ j ∈ js, low ≤ j ∧ j < high) (hn : (asked ++ js.map fun j => ch.getD j 0).Nodup) (hal : (asked ++ js.map fun j => ch.getD j 0).length ≤ 2 ^ 10)
    (hN : exs G d b248 jc (LL p y n (some (.list (mints ch))) v8 v9 (some (.int low)) (some (.int high)) (some (.int asked.length)) v13 v14 v15 v16 v17) [(p.a, mints (asked ++ js.map fun j => ch.getD j 0))] N R) :
    exs G d b246 jc (LL p y n (some (.list (mints ch))) v8 v9 (some (.int low)) (some (.int high)) (some (.int asked.length)) v13 v14 v15 v16 v17) [(p.a, mints (asked ++ js.map fun j => ch.getD j 0))] N R := by
  rw [b246]
  have z : decide ((high : Int) - (low : Int) > 2) = false := decide_eq_false (by lia)
  simp only [ay,di,dk,dl,ad,az,b0,ba,bb,ae,bc,bd,bg,bh,bj,bk,af,bl,ag,bn,bp,br,bs,bt,ah,ai,bv,aj,bw,ab,ak,bx,bz,al,c6,am,dn,dp,dq,dr,c7,du,dw,dx,dy,dz,ao,ap,c8,c9,ce,aq,au,aa,cf,cj,ck,cm,co,cq,cu,av,cw,cx,cy,cz,aw,d8,d9,a9,a8,e9,ee,ew,f0,f8,f9,fb,fe,ff,fg,fh,fi,fj,fk,fo,fq,fs,ft,fu,fw,fx,da,fy,db,g0,ge,gf,gg,gh,gi,gj,gk,gl,gm,gn,gp,gq,gs,gt,gu,gv,gw,gx,gy,gz,i0,i4,i5,i6,i8,i9,ia,dc,ax,ie,ig,ii,de,dg,ij,ik,il,im,ip,iq,ir,iu,iv,iw,iy,j0,j3,j4,j5,j6,dh,j7,j8,j9,ja,jb,cc_210,cc_211,cc_213,cc_221,cc_229,cc_243,cc_253,cc_265,cc_266,cc_268,cc_271,cc_282,cc_299,cc_302,List.map_cons,List.map_nil,Option.getD_some,z]
  rw [wq h_look]
  refine ⟨by rw [List.length_map]; lia, ?_⟩
  have hsl : sliceL (mints (asked ++ js.map fun j => ch.getD j 0)) (some (asked.length : Int)) none = mints (js.map fun j => ch.getD j 0) := by
    rw [slice_from' _ _ (by rw [List.length_map, List.length_append]; lia)]
    unfold mints
    rw [List.map_append, List.drop_left' (by rw [List.length_map])]
  rw [hsl]
  simp only [ay,di,dk,dl,ad,az,b0,ba,bb,ae,bc,bd,bg,bh,bj,bk,af,bl,ag,bn,bp,br,bs,bt,ah,ai,bv,aj,bw,ab,ak,bx,bz,al,c6,am,dn,dp,dq,dr,c7,du,dw,dx,dy,dz,ao,ap,c8,c9,ce,aq,au,aa,cf,cj,ck,cm,co,cq,cu,av,cw,cx,cy,cz,aw,d8,d9,a9,a8,e9,ee,ew,f0,f8,f9,fb,fe,ff,fg,fh,fi,fj,fk,fo,fq,fs,ft,fu,fw,fx,da,fy,db,g0,ge,gf,gg,gh,gi,gj,gk,gl,gm,gn,gp,gq,gs,gt,gu,gv,gw,gx,gy,gz,i0,i4,i5,i6,i8,i9,ia,dc,ax,ie,ig,ii,de,dg,ij,ik,il,im,ip,iq,ir,iu,iv,iw,iy,j0,j3,j4,j5,j6,dh,j7,j8,j9,ja,jb,cc_210,cc_211,cc_213,cc_221,cc_229,cc_243,cc_253,cc_265,cc_266,cc_268,cc_271,cc_282,cc_299,cc_302,List.map_cons,List.map_nil,Option.getD_some]
  have hjl : (mints (js.map fun j => ch.getD j 0)).length ≤ 2 ^ 10 := by
    rw [List.length_map]; rw [List.length_append] at hal; lia
  refine ⟨by lia, by lia, ?_⟩
  refine compGo_all (fun _ => false) (fun v => v) _ _ ?_ ?_ ?_
  · intro x hx K' h
    obtain ⟨c, hc, rfl⟩ := List.mem_map.mp hx
    obtain ⟨j, hjm, rfl⟩ := List.mem_map.mp hc
    have hjj := hj j hjm
    refine ⟨by rw [h_look]; rfl, ?_⟩
    rw [wv h_look (allInt_mints _)]
    refine ⟨by rw [List.length_map]; lia, ?_⟩
    have zc : decide ((((asked ++ js.map fun j => ch.getD j 0).map fun (k : Nat) => (k : Int)).count ((ch.getD j 0 : Nat) : Int) : Int) > 1) = false := decide_eq_false (by have := count_cast hn ((ch.getD j 0 : Nat) : Int); lia)
    simp only [ay,di,dk,dl,ad,az,b0,ba,bb,ae,bc,bd,bg,bh,bj,bk,af,bl,ag,bn,bp,br,bs,bt,ah,ai,bv,aj,bw,ab,ak,bx,bz,al,c6,am,dn,dp,dq,dr,c7,du,dw,dx,dy,dz,ao,ap,c8,c9,ce,aq,au,aa,cf,cj,ck,cm,co,cq,cu,av,cw,cx,cy,cz,aw,d8,d9,a9,a8,e9,ee,ew,f0,f8,f9,fb,fe,ff,fg,fh,fi,fj,fk,fo,fq,fs,ft,fu,fw,fx,da,fy,db,g0,ge,gf,gg,gh,gi,gj,gk,gl,gm,gn,gp,gq,gs,gt,gu,gv,gw,gx,gy,gz,i0,i4,i5,i6,i8,i9,ia,dc,ax,ie,ig,ii,de,dg,ij,ik,il,im,ip,iq,ir,iu,iv,iw,iy,j0,j3,j4,j5,j6,dh,j7,j8,j9,ja,jb,zc]
    refine ⟨by rw [List.length_map]; lia, ?_⟩
    have hsm : sliceL (mints ch) (some (low : Int)) (some (high : Int)) = mints ((ch.take high).drop low) := by
      rw [slice_mid _ _ _ (by rw [List.length_map]; exact hs2) (by rw [List.length_map]; lia)]
      unfold mints
      rw [List.map_drop, List.map_take]
    rw [hsm, wo (allInt_mints _)]
    refine ⟨by rw [List.length_map, List.length_drop, List.length_take]; lia, ?_⟩
    have hin : (((ch.take high).drop low).map fun (k : Nat) => (k : Int)).contains ((ch.getD j 0 : Nat) : Int) = true := by
      rw [List.contains_iff_mem, List.mem_map]
      refine ⟨ch.getD j 0, ?_, rfl⟩
      have hg : ((ch.take high).drop low)[j - low]? = some (ch.getD j 0) := by
        rw [List.getElem?_drop, List.getElem?_take, if_pos (by lia), List.getD_eq_getElem?_getD]
        have : low + (j - low) = j := by lia
        rw [this, List.getElem?_eq_getElem (by lia)]; rfl
      exact List.mem_of_getElem? hg
    rw [hin]
    exact h
  · intro x hx hp; cases hp
  · rw [List.filter_eq_nil_iff.mpr (fun _ _ => Bool.false_ne_true), List.map_nil, List.append_nil]
    rw [ow (u := []) (w := []) rfl rfl]
    exact ⟨by simp, ⟨by simp, by simp⟩, hN⟩
theorem c_clo3 (S : SetOk G) {d : Nat} {cs h : List Nat} {hl : List (List Nat)} {a : Addr} {xs : List MV} {i : Nat} {H0 : MH} {Q : MV → MH → Prop} (hcs : cs ∈ allWords) (ha : a ∉ keys H0) (hx : xs.length ≤ 2 ^ 10) (hi : hl[i]? = some h) (hil : hl.length ≤ 2 ^ 10)
    (hh : h.length ≤ 2 ^ 10) (hq : Q (.bool (cs.isSublist h)) ((a, xs ++ [.int i]) :: H0)) : Calls G (d + 3) (.clo 3 [.ref a, .list (mtxs hl), .str (tx cs)]) [.int i] [] ((a, xs) :: H0) Q := by
  refine calls_lam S.st (gc_3 S) (e := ml_3) (by rw [S.clo]; rfl) (by kernel_rfl) (bc_3 S _) ?_
  have e : lc0 py [("choice", .int i)] (frOf G 3 [.ref a, .list (mtxs hl), .str (tx cs)]) = [some (.int i), some (.ref a), some (.list (mtxs hl)), some (.str (tx cs))] := by unfold frOf; rw [S.clo]; rfl
  rw [e]
  simp only [ml_3,ay,di,dk,dl,ad,az,b0,ba,bb,ae,bc,bd,bg,bh,bj,bk,af,bl,ag,bn,bp,br,bs,bt,ah,ai,bv,aj,bw,ab,ak,bx,bz,al,c6,am,dn,dp,dq,dr,c7,du,dw,dx,dy,dz,ao,ap,c8,c9,ce,aq,au,aa,cf,cj,ck,cm,co,cq,cu,av,cw,cx,cy,cz,aw,d8,d9,a9,a8,e9,ee,ew,f0,f8,f9,fb,fe,ff,fg,fh,fi,fj,fk,fo,fq,fs,ft,fu,fw,fx,da,fy,db,g0,ge,gf,gg,gh,gi,gj,gk,gl,gm,gn,gp,gq,gs,gt,gu,gv,gw,gx,gy,gz,i0,i4,i5,i6,i8,i9,ia,dc,ax,ie,ig,ii,de,dg,ij,ik,il,im,ip,iq,ir,iu,iv,iw,iy,j0,j3,j4,j5,j6,dh,j7,j8,j9,ja,jb]
  exact ⟨S.f__law_ask.glob, c_ask S hcs ha hx hi hil hh hq⟩
theorem c_clo4 (S : SetOk G) {d : Nat} {cs h : List Nat} {hl : List (List Nat)} {a : Addr} {xs : List MV} {i : Nat} {H0 : MH} {Q : MV → MH → Prop} (hcs : cs ∈ allWords) (ha : a ∉ keys H0) (hx : xs.length ≤ 2 ^ 10) (hi : hl[i]? = some h) (hil : hl.length ≤ 2 ^ 10)
    (hh : h.length ≤ 2 ^ 10) (hq : Q (.bool (cs.isSublist h)) ((a, xs ++ [.int i]) :: H0)) : Calls G (d + 3) (.clo 4 [.ref a, .list (mtxs hl), .str (tx cs)]) [.int i] [] ((a, xs) :: H0) Q := by
  refine calls_lam S.st (gc_4 S) (e := ml_4) (by rw [S.clo]; rfl) (by kernel_rfl) (bc_4 S _) ?_
  have e : lc0 qa [("choice", .int i)] (frOf G 4 [.ref a, .list (mtxs hl), .str (tx cs)]) = [some (.int i), some (.ref a), some (.list (mtxs hl)), some (.str (tx cs))] := by unfold frOf; rw [S.clo]; rfl
  rw [e]
  simp only [ml_4,ay,di,dk,dl,ad,az,b0,ba,bb,ae,bc,bd,bg,bh,bj,bk,af,bl,ag,bn,bp,br,bs,bt,ah,ai,bv,aj,bw,ab,ak,bx,bz,al,c6,am,dn,dp,dq,dr,c7,du,dw,dx,dy,dz,ao,ap,c8,c9,ce,aq,au,aa,cf,cj,ck,cm,co,cq,cu,av,cw,cx,cy,cz,aw,d8,d9,a9,a8,e9,ee,ew,f0,f8,f9,fb,fe,ff,fg,fh,fi,fj,fk,fo,fq,fs,ft,fu,fw,fx,da,fy,db,g0,ge,gf,gg,gh,gi,gj,gk,gl,gm,gn,gp,gq,gs,gt,gu,gv,gw,gx,gy,gz,i0,i4,i5,i6,i8,i9,ia,dc,ax,ie,ig,ii,de,dg,ij,ik,il,im,ip,iq,ir,iu,iv,iw,iy,j0,j3,j4,j5,j6,dh,j7,j8,j9,ja,jb]
  exact ⟨S.f__law_ask.glob, c_ask S hcs ha hx hi hil hh hq⟩
theorem heldF_hs {ss : List Nat} (h5 : ss.length = 5) : heldF ss = (List.range 32).map (hs ss) := by
  match ss, h5 with
  | [a, b, c, d, e], _ => rfl
theorem held_get {ss : List Nat} (h5 : ss.length = 5) {c : Nat} (hc : c < 32) : (heldF ss)[c]? = some (hs ss c) := by
  rw [heldF_hs h5, List.getElem?_map, List.getElem?_range hc]; rfl
theorem law_242 (S : SetOk G) {p : Par} (ok : p.Ok) {d y n : Nat} {U D : Nat → Bool} {ch asked : List Nat} {low spot high : Nat} {v8 v9 v12 v13 v14 v15 v16 v17 : Option MV} {N : Loc → MH → Prop} {R : MV → MH → Prop} (K : Cut p.f U D ch low spot high) (hch : ∀ x ∈ ch, x < 32) (hl : ch.length ≤ 6) (hal : asked.length ≤ 64)
    (hN : ∀ js : List Nat, js.Nodup → (∀ j ∈ js, low ≤ j ∧ j < high) → exs G (d + 4) b246 jc (LL p y n (some (.list (mints ch))) v8 v9 (some (.int low)) (some (.int high)) v12 (some (.int spot)) v14 v15 v16 v17) [(p.a, mints (asked ++ js.map fun j => ch.getD j 0))] N R) :
    exs G (d + 4) b242 jc (LL p y n (some (.list (mints ch))) v8 v9 (some (.int low)) (some (.int high)) v12 v13 v14 v15 v16 v17) [(p.a, mints asked)] N R := by
  have hI : [(p.a, mints asked)] = (fun js : List Nat => [(p.a, mints (asked ++ js.map fun j => ch.getD j 0))]) [] := by simp
  have hc := K.c
  have hgd : ∀ i, i < ch.length → ch[i]? = some (ch.getD i 0) := fun i hi => by rw [List.getD_eq_getElem?_getD, List.getElem?_eq_getElem hi]; rfl
  have hp : ∀ i, low ≤ i → i < high → p.f (ch.getD i 0) = decide (spot ≤ i) := fun i h1 h2 => by
    have := K.f i _ (hgd i (by lia))
    rw [Bool.eq_iff_iff, decide_eq_true_eq]; exact this
  have hlen : (mints ch).length = ch.length := List.length_map ..
  have h5 := ok.s5
  have hhl : (heldF p.ss).length ≤ 2 ^ 10 := by rw [heldF_len, h5]; lia
  have hask : ∀ (js : List Nat), js.Nodup → (∀ j ∈ js, low ≤ j ∧ j < high) → (mints (asked ++ js.map fun j => ch.getD j 0)).length ≤ 2 ^ 10 := fun js h1 h2 => by
    have := pigeon 6 js h1 fun j hj => by have := h2 j hj; lia
    rw [List.length_map, List.length_append, List.length_map]; lia
  have hext : ∀ (js : List Nat) (i : Nat), mints (asked ++ js.map fun j => ch.getD j 0) ++ [MV.int ((ch.getD i 0 : Nat) : Int)] = mints (asked ++ (js ++ [i]).map fun j => ch.getD j 0) := fun js i => by
    unfold mints; simp
  have hx : ∀ (i : Nat) (x : MV), i < ch.length → (mints ch)[i]? = some x → x = .int (ch.getD i 0 : Nat) := fun i x h1 h2 => by
    rw [List.getElem?_map, hgd i h1] at h2; exact (Option.some.inj h2).symm
  rw [b242]
  simp only [ay,di,dk,dl,ad,az,b0,ba,bb,ae,bc,bd,bg,bh,bj,bk,af,bl,ag,bn,bp,br,bs,bt,ah,ai,bv,aj,bw,ab,ak,bx,bz,al,c6,am,dn,dp,dq,dr,c7,du,dw,dx,dy,dz,ao,ap,c8,c9,ce,aq,au,aa,cf,cj,ck,cm,co,cq,cu,av,cw,cx,cy,cz,aw,d8,d9,a9,a8,e9,ee,ew,f0,f8,f9,fb,fe,ff,fg,fh,fi,fj,fk,fo,fq,fs,ft,fu,fw,fx,da,fy,db,g0,ge,gf,gg,gh,gi,gj,gk,gl,gm,gn,gp,gq,gs,gt,gu,gv,gw,gx,gy,gz,i0,i4,i5,i6,i8,i9,ia,dc,ax,ie,ig,ii,de,dg,ij,ik,il,im,ip,iq,ir,iu,iv,iw,iy,j0,j3,j4,j5,j6,dh,j7,j8,j9,ja,jb,hlen]
  refine ⟨by lia, ?_⟩
  have ecap3 : capV (LL p y n (some (.list (mints ch))) v8 v9 (some (.int low)) (some (.int high)) v12 v13 v14 v15 v16 v17) cap_3 = some [.ref p.a, .list (mtxs (heldF p.ss)), .str (tx p.cs)] := rfl
  have ecap4 : capV (LL p y n (some (.list (mints ch))) v8 v9 (some (.int low)) (some (.int high)) v12 v13 v14 v15 v16 v17) cap_4 = some [.ref p.a, .list (mtxs (heldF p.ss)), .str (tx p.cs)] := rfl
  cases h4 : ((ch.length : Int) == 4) with
  | true =>
    simp only [b243,ay,di,dk,dl,ad,az,b0,ba,bb,ae,bc,bd,bg,bh,bj,bk,af,bl,ag,bn,bp,br,bs,bt,ah,ai,bv,aj,bw,ab,ak,bx,bz,al,c6,am,dn,dp,dq,dr,c7,du,dw,dx,dy,dz,ao,ap,c8,c9,ce,aq,au,aa,cf,cj,ck,cm,co,cq,cu,av,cw,cx,cy,cz,aw,d8,d9,a9,a8,e9,ee,ew,f0,f8,f9,fb,fe,ff,fg,fh,fi,fj,fk,fo,fq,fs,ft,fu,fw,fx,da,fy,db,g0,ge,gf,gg,gh,gi,gj,gk,gl,gm,gn,gp,gq,gs,gt,gu,gv,gw,gx,gy,gz,i0,i4,i5,i6,i8,i9,ia,dc,ax,ie,ig,ii,de,dg,ij,ik,il,im,ip,iq,ir,iu,iv,iw,iy,j0,j3,j4,j5,j6,dh,j7,j8,j9,ja,jb,jd,je,jf,jg,jh,ji,jj,jk,jl,jm,jn,jo,jp,jq,jr,jt,ju,jv,jw,jx,jy,jz,k0,k7,k8,k9,kg]
    rw [ecap3]
    refine ⟨S.f_bisect_right.glob, co_3 S, ?_⟩
    rw [hI]
    refine c_rk (I := fun js : List Nat => [(p.a, mints (asked ++ js.map fun j => ch.getD j 0))]) (p := fun i => p.f (ch.getD i 0)) S (by rw [hlen]; lia) K.a K.b (by rw [hlen]; exact hc) hp (fun js i x Q h1 h2 h3 h4 h5' h6 hq => ?_) (fun js h1 h2 => hN js h1 h2)
    have hi : i < ch.length := by lia
    rw [hx i x hi h6]
    refine c_clo3 S ok.cs (by simp [keys]) (hask js h1 h2) (held_get h5 (hch _ (List.mem_of_getElem? (hgd i hi)))) hhl (by have := hs_len p.ss (ch.getD i 0); lia) ?_
    rw [hext]
    exact hq
  | false =>
    simp only [b245,ay,di,dk,dl,ad,az,b0,ba,bb,ae,bc,bd,bg,bh,bj,bk,af,bl,ag,bn,bp,br,bs,bt,ah,ai,bv,aj,bw,ab,ak,bx,bz,al,c6,am,dn,dp,dq,dr,c7,du,dw,dx,dy,dz,ao,ap,c8,c9,ce,aq,au,aa,cf,cj,ck,cm,co,cq,cu,av,cw,cx,cy,cz,aw,d8,d9,a9,a8,e9,ee,ew,f0,f8,f9,fb,fe,ff,fg,fh,fi,fj,fk,fo,fq,fs,ft,fu,fw,fx,da,fy,db,g0,ge,gf,gg,gh,gi,gj,gk,gl,gm,gn,gp,gq,gs,gt,gu,gv,gw,gx,gy,gz,i0,i4,i5,i6,i8,i9,ia,dc,ax,ie,ig,ii,de,dg,ij,ik,il,im,ip,iq,ir,iu,iv,iw,iy,j0,j3,j4,j5,j6,dh,j7,j8,j9,ja,jb,jd,je,jf,jg,jh,ji,jj,jk,jl,jm,jn,jo,jp,jq,jr,jt,ju,jv,jw,jx,jy,jz,k0,k7,k8,k9,kg]
    rw [ecap4]
    refine ⟨S.f_bisect_left.glob, co_4 S, ?_⟩
    rw [hI]
    refine c_lk (I := fun js : List Nat => [(p.a, mints (asked ++ js.map fun j => ch.getD j 0))]) (p := fun i => p.f (ch.getD i 0)) S (by rw [hlen]; lia) K.a K.b (by rw [hlen]; exact hc) hp (fun js i x Q h1 h2 h3 h4 h5' h6 hq => ?_) (fun js h1 h2 => hN js h1 h2)
    have hi : i < ch.length := by lia
    rw [hx i x hi h6]
    refine c_clo4 S ok.cs (by simp [keys]) (hask js h1 h2) (held_get h5 (hch _ (List.mem_of_getElem? (hgd i hi)))) hhl (by have := hs_len p.ss (ch.getD i 0); lia) ?_
    rw [hext]
    exact hq
end Mine
namespace Mine
variable {G : Stat}
noncomputable def knownL (D : Nat → Bool) (ch : List Nat) : List Int := ch.map fun c => if D c then 0 else 1
noncomputable def yesL (U : Nat → Bool) (ch : List Nat) : List Int := ch.map fun c => if U c then 1 else 0
theorem knownL_get {D : Nat → Bool} {ch : List Nat} {i : Nat} {v : Int} (h : (knownL D ch)[i]? = some v) : ∃ c, ch[i]? = some c ∧ v = if D c then 0 else 1 := by
  unfold knownL at h
  rw [List.getElem?_map] at h
  cases hc : ch[i]? with
  | none => rw [hc] at h; cases h
  | some c => rw [hc] at h; exact ⟨c, rfl, (Option.some.inj h).symm⟩
theorem yesL_get {U : Nat → Bool} {ch : List Nat} {i : Nat} {v : Int} (h : (yesL U ch)[i]? = some v) : ∃ c, ch[i]? = some c ∧ v = if U c then 1 else 0 := by
  unfold yesL at h
  rw [List.getElem?_map] at h
  cases hc : ch[i]? with
  | none => rw [hc] at h; cases h
  | some c => rw [hc] at h; exact ⟨c, rfl, (Option.some.inj h).symm⟩
theorem law_236 (S : SetOk G) {p : Par} (ok : p.Ok) {U D : Nat → Bool} {ch asked : List Nat} {low spot high : Nat} {v8 v9 v10 v11 v12 v13 v14 v15 v16 v17 : Option MV} {N : Loc → MH → Prop} {R : MV → MH → Prop} (K : Cut p.f U D ch low spot high) (hch : ∀ x ∈ ch, x < 32) (hl : ch.length ≤ 6)
    (hal : asked.length ≤ 64) (hnd : ∀ js : List Nat, js.Nodup → (∀ j ∈ js, low ≤ j ∧ j < high) → (asked ++ js.map fun j => ch.getD j 0).Nodup)
    (hN : ∀ (js : List Nat) v8 v9 v10 v11 v12 v13 v14 v15 v16 v17, js.Nodup → (∀ j ∈ js, low ≤ j ∧ j < high) → N (LL p (bsum p.w (nextU U ch spot high) 32) (bsum p.w (nextD D ch spot low) 32) (some (.list (mints ch))) v8 v9 v10 v11 v12 v13 v14 v15 v16 v17) [(p.a, mints (asked ++ js.map fun j => ch.getD j 0))]) :
    exs G 27 b236 jc (LL p (bsum p.w U 32) (bsum p.w D 32) (some (.list (mints ch))) v8 v9 v10 v11 v12 v13 v14 v15 v16 v17) [(p.a, mints asked)] N R := by
  obtain ⟨w1, w2⟩ := w_facts ok.w
  have hlen : (mints ch).length = ch.length := List.length_map ..
  have hKc := K.c
  have hwc : ∀ c : Nat, (p.w : Int) * (c : Int) = ((p.w * c : Nat) : Int) := fun c => by push_cast; rfl
  rw [b236]
  simp only [ay,di,dk,dl,ad,az,b0,ba,bb,ae,bc,bd,bg,bh,bj,bk,af,bl,ag,bn,bp,br,bs,bt,ah,ai,bv,aj,bw,ab,ak,bx,bz,al,c6,am,dn,dp,dq,dr,c7,du,dw,dx,dy,dz,ao,ap,c8,c9,ce,aq,au,aa,cf,cj,ck,cm,co,cq,cu,av,cw,cx,cy,cz,aw,d8,d9,a9,a8,e9,ee,ew,f0,f8,f9,fb,fe,ff,fg,fh,fi,fj,fk,fo,fq,fs,ft,fu,fw,fx,da,fy,db,g0,ge,gf,gg,gh,gi,gj,gk,gl,gm,gn,gp,gq,gs,gt,gu,gv,gw,gx,gy,gz,i0,i4,i5,i6,i8,i9,ia,dc,ax,ie,ig,ii,de,dg,ij,ik,il,im,ip,iq,ir,iu,iv,iw,iy,j0,j3,j4,j5,j6,dh,j7,j8,j9,ja,jb,cc_210,cc_211,cc_213,cc_221,cc_229,cc_243,cc_253,cc_265,cc_266,cc_268,cc_271,cc_282,cc_299,cc_302,List.map_cons,List.map_nil,Option.getD_some,jd,je,jf,jg,jh,ji,jj,jk,jl,jm,jn,jo,jp,jq,jr,jt,ju,jv,jw,jx,jy,jz,k0,k7,k8,k9,kg,hlen]
  refine ⟨by lia, by lia, ?_⟩
  refine compGo_map (fun v : MV => match v with | .int c => MV.int (if D c.toNat then 0 else 1) | v => v) ?_ ?_ ?_
  · exact fun x hx K' h => h
  · intro x hx K' h
    obtain ⟨c, hc, rfl⟩ := List.mem_map.mp hx
    have hc32 := hch c hc
    simp only [ay,di,dk,dl,ad,az,b0,ba,bb,ae,bc,bd,bg,bh,bj,bk,af,bl,ag,bn,bp,br,bs,bt,ah,ai,bv,aj,bw,ab,ak,bx,bz,al,c6,am,dn,dp,dq,dr,c7,du,dw,dx,dy,dz,ao,ap,c8,c9,ce,aq,au,aa,cf,cj,ck,cm,co,cq,cu,av,cw,cx,cy,cz,aw,d8,d9,a9,a8,e9,ee,ew,f0,f8,f9,fb,fe,ff,fg,fh,fi,fj,fk,fo,fq,fs,ft,fu,fw,fx,da,fy,db,g0,ge,gf,gg,gh,gi,gj,gk,gl,gm,gn,gp,gq,gs,gt,gu,gv,gw,gx,gy,gz,i0,i4,i5,i6,i8,i9,ia,dc,ax,ie,ig,ii,de,dg,ij,ik,il,im,ip,iq,ir,iu,iv,iw,iy,j0,j3,j4,j5,j6,dh,j7,j8,j9,ja,jb,hwc]
    refine ⟨small_mul (by lia) (by lia), by lia, by decide, ?_⟩
    rw [toNat_nat, shr_nat]
    have := fmod_nat (bsum p.w D 32 / 2 ^ (p.w * c)) 2
    rw [bsum_at w1 D hc32] at this
    have e2 : (((bsum p.w D 32 / 2 ^ (p.w * c) : Nat) : Int)).fmod 2 = (((if D c then 1 else 0 : Nat)) : Int) := this
    rw [e2]
    have e3 : (1 : Int) - (((if D c then 1 else 0 : Nat)) : Int) = if D c then 0 else 1 := by split <;> rfl
    rw [e3]
    exact h
  have ek : (mints ch).map (fun v : MV => match v with | .int c => MV.int (if D c.toNat then 0 else 1) | v => v) = (knownL D ch).map .int := by
    unfold mints knownL
    rw [List.map_map, List.map_map]
    exact List.map_congr_left fun c _ => rfl
  rw [ek]
  have hkl : (knownL D ch).length = ch.length := List.length_map ..
  have hyl : (yesL U ch).length = ch.length := List.length_map ..
  simp only [b237,ay,di,dk,dl,ad,az,b0,ba,bb,ae,bc,bd,bg,bh,bj,bk,af,bl,ag,bn,bp,br,bs,bt,ah,ai,bv,aj,bw,ab,ak,bx,bz,al,c6,am,dn,dp,dq,dr,c7,du,dw,dx,dy,dz,ao,ap,c8,c9,ce,aq,au,aa,cf,cj,ck,cm,co,cq,cu,av,cw,cx,cy,cz,aw,d8,d9,a9,a8,e9,ee,ew,f0,f8,f9,fb,fe,ff,fg,fh,fi,fj,fk,fo,fq,fs,ft,fu,fw,fx,da,fy,db,g0,ge,gf,gg,gh,gi,gj,gk,gl,gm,gn,gp,gq,gs,gt,gu,gv,gw,gx,gy,gz,i0,i4,i5,i6,i8,i9,ia,dc,ax,ie,ig,ii,de,dg,ij,ik,il,im,ip,iq,ir,iu,iv,iw,iy,j0,j3,j4,j5,j6,dh,j7,j8,j9,ja,jb,cc_210,cc_211,cc_213,cc_221,cc_229,cc_243,cc_253,cc_265,cc_266,cc_268,cc_271,cc_282,cc_299,cc_302,List.map_cons,List.map_nil,Option.getD_some,jd,je,jf,jg,jh,ji,jj,jk,jl,jm,jn,jo,jp,jq,jr,jt,ju,jv,jw,jx,jy,jz,k0,k7,k8,k9,kg,hlen]
  refine ⟨S.f_bisect_left.glob, ?_⟩
  refine (c_bl2 (d := 26) S (t := low) (by lia) (by have := K.a; have := K.b; lia) (fun i v h1 h2 => ?_) (fun i v h1 h2 => ?_) ?_)
  · obtain ⟨c, hc, rfl⟩ := knownL_get h2
    rw [(K.d i c hc).mpr h1]; decide
  · obtain ⟨c, hc, rfl⟩ := knownL_get h2
    cases hD : D c with
    | true => have := (K.d i c hc).mp hD; lia
    | false => decide
  simp only [b238,ay,di,dk,dl,ad,az,b0,ba,bb,ae,bc,bd,bg,bh,bj,bk,af,bl,ag,bn,bp,br,bs,bt,ah,ai,bv,aj,bw,ab,ak,bx,bz,al,c6,am,dn,dp,dq,dr,c7,du,dw,dx,dy,dz,ao,ap,c8,c9,ce,aq,au,aa,cf,cj,ck,cm,co,cq,cu,av,cw,cx,cy,cz,aw,d8,d9,a9,a8,e9,ee,ew,f0,f8,f9,fb,fe,ff,fg,fh,fi,fj,fk,fo,fq,fs,ft,fu,fw,fx,da,fy,db,g0,ge,gf,gg,gh,gi,gj,gk,gl,gm,gn,gp,gq,gs,gt,gu,gv,gw,gx,gy,gz,i0,i4,i5,i6,i8,i9,ia,dc,ax,ie,ig,ii,de,dg,ij,ik,il,im,ip,iq,ir,iu,iv,iw,iy,j0,j3,j4,j5,j6,dh,j7,j8,j9,ja,jb,cc_210,cc_211,cc_213,cc_221,cc_229,cc_243,cc_253,cc_265,cc_266,cc_268,cc_271,cc_282,cc_299,cc_302,List.map_cons,List.map_nil,Option.getD_some,jd,je,jf,jg,jh,ji,jj,jk,jl,jm,jn,jo,jp,jq,jr,jt,ju,jv,jw,jx,jy,jz,k0,k7,k8,k9,kg,hlen]
  refine ⟨S.f_bisect_right.glob, by lia, by lia, ?_⟩
  refine compGo_map (fun v : MV => match v with | .int c => MV.int (if U c.toNat then 1 else 0) | v => v) ?_ ?_ ?_
  · exact fun x hx K' h => h
  · intro x hx K' h
    obtain ⟨c, hc, rfl⟩ := List.mem_map.mp hx
    have hc32 := hch c hc
    simp only [ay,di,dk,dl,ad,az,b0,ba,bb,ae,bc,bd,bg,bh,bj,bk,af,bl,ag,bn,bp,br,bs,bt,ah,ai,bv,aj,bw,ab,ak,bx,bz,al,c6,am,dn,dp,dq,dr,c7,du,dw,dx,dy,dz,ao,ap,c8,c9,ce,aq,au,aa,cf,cj,ck,cm,co,cq,cu,av,cw,cx,cy,cz,aw,d8,d9,a9,a8,e9,ee,ew,f0,f8,f9,fb,fe,ff,fg,fh,fi,fj,fk,fo,fq,fs,ft,fu,fw,fx,da,fy,db,g0,ge,gf,gg,gh,gi,gj,gk,gl,gm,gn,gp,gq,gs,gt,gu,gv,gw,gx,gy,gz,i0,i4,i5,i6,i8,i9,ia,dc,ax,ie,ig,ii,de,dg,ij,ik,il,im,ip,iq,ir,iu,iv,iw,iy,j0,j3,j4,j5,j6,dh,j7,j8,j9,ja,jb,hwc]
    refine ⟨small_mul (by lia) (by lia), by lia, by decide, ?_⟩
    rw [toNat_nat, shr_nat]
    have := fmod_nat (bsum p.w U 32 / 2 ^ (p.w * c)) 2
    rw [bsum_at w1 U hc32] at this
    have e2 : (((bsum p.w U 32 / 2 ^ (p.w * c) : Nat) : Int)).fmod 2 = (((if U c then 1 else 0 : Nat)) : Int) := this
    rw [e2]
    have e3 : (((if U c then 1 else 0 : Nat)) : Int) = if U c then 1 else 0 := by split <;> rfl
    rw [e3]
    exact h
  have ey : (mints ch).map (fun v : MV => match v with | .int c => MV.int (if U c.toNat then 1 else 0) | v => v) = (yesL U ch).map .int := by
    unfold mints yesL
    rw [List.map_map, List.map_map]
    exact List.map_congr_left fun c _ => rfl
  rw [ey]
  refine (c_br2 (d := 26) S (t := high) (by lia) (by lia) (fun i v h1 h2 => ?_) (fun i v h1 h2 => ?_) ?_)
  · obtain ⟨c, hc, rfl⟩ := yesL_get h2
    cases hU : U c with
    | true => have := (K.u i c hc).mp hU; lia
    | false => decide
  · obtain ⟨c, hc, rfl⟩ := yesL_get h2
    rw [(K.u i c hc).mpr h1]; decide
  simp only [b239,ay,di,dk,dl,ad,az,b0,ba,bb,ae,bc,bd,bg,bh,bj,bk,af,bl,ag,bn,bp,br,bs,bt,ah,ai,bv,aj,bw,ab,ak,bx,bz,al,c6,am,dn,dp,dq,dr,c7,du,dw,dx,dy,dz,ao,ap,c8,c9,ce,aq,au,aa,cf,cj,ck,cm,co,cq,cu,av,cw,cx,cy,cz,aw,d8,d9,a9,a8,e9,ee,ew,f0,f8,f9,fb,fe,ff,fg,fh,fi,fj,fk,fo,fq,fs,ft,fu,fw,fx,da,fy,db,g0,ge,gf,gg,gh,gi,gj,gk,gl,gm,gn,gp,gq,gs,gt,gu,gv,gw,gx,gy,gz,i0,i4,i5,i6,i8,i9,ia,dc,ax,ie,ig,ii,de,dg,ij,ik,il,im,ip,iq,ir,iu,iv,iw,iy,j0,j3,j4,j5,j6,dh,j7,j8,j9,ja,jb,cc_210,cc_211,cc_213,cc_221,cc_229,cc_243,cc_253,cc_265,cc_266,cc_268,cc_271,cc_282,cc_299,cc_302,List.map_cons,List.map_nil,Option.getD_some,jd,je,jf,jg,jh,ji,jj,jk,jl,jm,jn,jo,jp,jq,jr,jt,ju,jv,jw,jx,jy,jz,k0,k7,k8,k9,kg,hlen]
  refine ⟨S.f_bisect_left.glob, ?_⟩
  refine (c_bl4 (d := 26) (l := knownL D ch) S (lo := low) (hi := high) (t := low) (by lia) (Nat.le_refl _) (by have := K.a; have := K.b; lia) (by lia) (fun i v h1 h2 h3 => by lia) (fun i v h1 h2 h3 => ?_) ?_)
  · obtain ⟨c, hc, rfl⟩ := knownL_get h3
    split <;> lia
  refine ⟨S.f_bisect_left.glob, ?_⟩
  refine (c_bl4 (d := 26) (l := knownL D ch) S (lo := low) (hi := high) (t := high) (by lia) (by have := K.a; have := K.b; lia) (Nat.le_refl _) (by lia) (fun i v h1 h2 h3 => ?_) (fun i v h1 h2 h3 => by lia) ?_)
  · obtain ⟨c, hc, rfl⟩ := knownL_get h3
    split <;> lia
  refine ⟨by simp, by simp, ?_⟩
  rw [ow (u := [(low : Int), (high : Int)]) (w := [(low : Int), (high : Int)]) rfl rfl]
  refine ⟨⟨by simp, by simp⟩, ?_⟩
  simp only [beq_self_eq_true,Bool.not_true,b241,ay,di,dk,dl,ad,az,b0,ba,bb,ae,bc,bd,bg,bh,bj,bk,af,bl,ag,bn,bp,br,bs,bt,ah,ai,bv,aj,bw,ab,ak,bx,bz,al,c6,am,dn,dp,dq,dr,c7,du,dw,dx,dy,dz,ao,ap,c8,c9,ce,aq,au,aa,cf,cj,ck,cm,co,cq,cu,av,cw,cx,cy,cz,aw,d8,d9,a9,a8,e9,ee,ew,f0,f8,f9,fb,fe,ff,fg,fh,fi,fj,fk,fo,fq,fs,ft,fu,fw,fx,da,fy,db,g0,ge,gf,gg,gh,gi,gj,gk,gl,gm,gn,gp,gq,gs,gt,gu,gv,gw,gx,gy,gz,i0,i4,i5,i6,i8,i9,ia,dc,ax,ie,ig,ii,de,dg,ij,ik,il,im,ip,iq,ir,iu,iv,iw,iy,j0,j3,j4,j5,j6,dh,j7,j8,j9,ja,jb,jd,je,jf,jg,jh,ji,jj,jk,jl,jm,jn,jo,jp,jq,jr,jt,ju,jv,jw,jx,jy,jz,k0,k7,k8,k9,kg]
  rw [qt h_look]
  refine ⟨by rw [List.length_map]; lia, ?_⟩
  have el : (mints asked).length = asked.length := List.length_map ..
  rw [el]
  refine law_242 (d := 23) S ok K hch hl hal fun js j1 j2 => ?_
  have hjl := pigeon 6 js j1 fun j hj => by have := j2 j hj; lia
  refine law_246 S K.two (Nat.le_trans K.a K.b) hKc hl j2 (hnd js j1 j2) (by rw [List.length_append, List.length_map]; lia) ?_
  exact law_248 S ok K.b hKc hch hl fun v14 v15 v16 v17 => hN js _ _ _ _ _ _ _ _ _ _ j1 j2
end Mine
namespace Mine
variable {G : Stat}
noncomputable abbrev L2 (p : Par) (y n : Nat) (v7 v8 v9 v10 v11 v12 v13 v14 v15 v16 v17 v18 v19 v20 v21 v22 v23 : Option MV) : Loc :=
  [some (.list (p.sc.map .int)), some (.int p.tot), some (.int p.w), some (.list (mints (stepsF p.w 5))), some (.int ((stepsF p.w 5).getD 31 0 : Nat)), some (.int y), some (.int n), v7, v8, v9, v10, v11, v12, v13, v14, v15, v16, v17, v18, v19, v20, v21, v22, v23, some (.ref p.a), some (.list (mtxs (heldF p.ss))), some (.str (tx p.cs))]
noncomputable def dots (cs : List Nat) : Str := tx (cs ++ [46, 46, 46] ++ cs)
noncomputable def okDots (cs : List Nat) : Bool := Txt.contains (dots cs) "..." && (Txt.split (dots cs) "..." == [tx cs, tx cs]) &&
  (ellRes (tx cs) [] (tx cs) (tx (cs ++ cs)) && !ellRes (tx cs) [] (tx cs) (tx cs) && !ellRes (tx cs) [] (tx cs) (tx ([99] ++ cs ++ cs)) && !ellRes (tx cs) [] (tx cs) (tx (cs ++ cs ++ [99])))
theorem okDotss : ∀ cs ∈ allWords, okDots cs = true := by decide +kernel
theorem law_270 (S : SetOk G) {p : Par} (ok : p.Ok) {d y n : Nat} {v7 v8 v9 v10 v11 v12 v13 v14 v15 v16 v17 v18 v19 v20 v21 v22 v23 : Option MV} {H : MH} {N : Loc → MH → Prop} {R : MV → MH → Prop} (hR : R (.bool true) H) :
    exs G (d + 1) b270 jc (L2 p y n v7 v8 v9 v10 v11 v12 v13 v14 v15 v16 v17 v18 v19 v20 v21 v22 v23) H N R := by
  have ed : Str.ofString "..." = tx [46, 46, 46] := by decide +kernel
  have ec : Str.ofString "c" = tx [99] := by decide +kernel
  have hw := words_len p.cs ok.cs
  have hk := okDotss p.cs ok.cs
  unfold okDots at hk
  simp only [Bool.and_eq_true, beq_iff_eq, Bool.not_eq_true'] at hk
  obtain ⟨⟨k1, k2⟩, ⟨⟨k3, k4⟩, k5⟩, k6⟩ := hk
  rw [b270]
  simp only [ay,di,dk,dl,ad,az,b0,ba,bb,ae,bc,bd,bg,bh,bj,bk,af,bl,ag,bn,bp,br,bs,bt,ah,ai,bv,aj,bw,ab,ak,bx,bz,al,c6,am,dn,dp,dq,dr,c7,du,dw,dx,dy,dz,ao,ap,c8,c9,ce,aq,au,aa,cf,cj,ck,cm,co,cq,cu,av,cw,cx,cy,cz,aw,d8,d9,a9,a8,e9,ee,ew,f0,f8,f9,fb,fe,ff,fg,fh,fi,fj,fk,fo,fq,fs,ft,fu,fw,fx,da,fy,db,g0,ge,gf,gg,gh,gi,gj,gk,gl,gm,gn,gp,gq,gs,gt,gu,gv,gw,gx,gy,gz,i0,i4,i5,i6,i8,i9,ia,dc,ax,ie,ig,ii,de,dg,ij,ik,il,im,ip,iq,ir,iu,iv,iw,iy,j0,j3,j4,j5,j6,dh,j7,j8,j9,ja,jb,cc_210,cc_211,cc_213,cc_221,cc_229,cc_243,cc_253,cc_265,cc_266,cc_268,cc_271,cc_282,cc_299,cc_302,List.map_cons,List.map_nil,Option.getD_some,jd,je,jf,jg,jh,ji,jj,jk,jl,jm,jn,jo,jp,jq,jr,jt,ju,jv,jw,jx,jy,jz,k0,k7,k8,k9,kg,ec,tx_append,tx_len]
  refine ⟨by lia, by simp; lia, by simp; lia, by lia, by simp; lia, by simp, ?_⟩
  rw [b271]
  simp only [ay,di,dk,dl,ad,az,b0,ba,bb,ae,bc,bd,bg,bh,bj,bk,af,bl,ag,bn,bp,br,bs,bt,ah,ai,bv,aj,bw,ab,ak,bx,bz,al,c6,am,dn,dp,dq,dr,c7,du,dw,dx,dy,dz,ao,ap,c8,c9,ce,aq,au,aa,cf,cj,ck,cm,co,cq,cu,av,cw,cx,cy,cz,aw,d8,d9,a9,a8,e9,ee,ew,f0,f8,f9,fb,fe,ff,fg,fh,fi,fj,fk,fo,fq,fs,ft,fu,fw,fx,da,fy,db,g0,ge,gf,gg,gh,gi,gj,gk,gl,gm,gn,gp,gq,gs,gt,gu,gv,gw,gx,gy,gz,i0,i4,i5,i6,i8,i9,ia,dc,ax,ie,ig,ii,de,dg,ij,ik,il,im,ip,iq,ir,iu,iv,iw,iy,j0,j3,j4,j5,j6,dh,j7,j8,j9,ja,jb,cc_210,cc_211,cc_213,cc_221,cc_229,cc_243,cc_253,cc_265,cc_266,cc_268,cc_271,cc_282,cc_299,cc_302,List.map_cons,List.map_nil,Option.getD_some,jd,je,jf,jg,jh,ji,jj,jk,jl,jm,jn,jo,jp,jq,jr,jt,ju,jv,jw,jx,jy,jz,k0,k7,k8,k9,kg,ed,tx_append,tx_len]
  refine ⟨by simp, by simp, ?_⟩
  refine compGo_map (fun v : MV => match v with | .str s => MV.bool (ellRes (tx p.cs) [] (tx p.cs) s) | v => v) ?_ ?_ ?_
  · exact fun x hx K' h => h
  · intro x hx K' h
    obtain ⟨t, ht, rfl⟩ : ∃ t : List Nat, t.length ≤ 20 ∧ x = .str (tx t) := by
      simp only [List.mem_cons, List.not_mem_nil, or_false] at hx
      rcases hx with rfl | rfl | rfl | rfl
      · exact ⟨_, by simp; lia, rfl⟩
      · exact ⟨_, by lia, rfl⟩
      · exact ⟨_, by simp; lia, rfl⟩
      · exact ⟨_, by simp; lia, rfl⟩
    refine ⟨S.f__ellipsis_match.glob, by simp; lia, by simp; lia, ?_⟩
    refine c_ell S (w0 := tx p.cs) (mid := []) (wl := tx p.cs) k1 k2 (by rw [tx_len]; lia) (by rw [tx_len]; lia) (by rw [tx_len]; simp; lia) (by rw [tx_len]; lia) (fun w hw => ?_) (by simp) h
    have : w = tx p.cs := by simpa using hw
    rw [this, tx_len]; lia
  · simp only [List.map_cons, List.map_nil, k3, k4, k5, k6]
    rw [wj (u := [true, false, false, false]) (w := [true, false, false, false]) rfl rfl rfl]
    exact ⟨by simp, ⟨by simp, by simp⟩, _, .refl _, hR⟩
end Mine
namespace Mine
variable {G : Stat}
theorem words_letters : ∀ cs ∈ allWords, ∀ x ∈ cs, x ∈ letters := by decide +kernel
theorem law_264 (S : SetOk G) {p : Par} (ok : p.Ok) {y n : Nat} {asked : List Nat} {v7 v8 v9 v10 v11 v12 v13 v14 v15 v16 v17 v18 v19 v20 v21 v22 v23 : Option MV} {N : Loc → MH → Prop} {R : MV → MH → Prop} (hal : asked.length ≤ 64) (hR : R (.bool true) [(p.a, mints asked)]) :
    exs G 27 b264 jc (L2 p y n v7 v8 v9 v10 v11 v12 v13 v14 v15 v16 v17 v18 v19 v20 v21 v22 v23) [(p.a, mints asked)] N R := by
  have er : rangeL 0 32 1 = (List.range 32).map fun (k : Nat) => MV.int (k : Int) := rangeL_nat 32
  have h5 := ok.s5
  have hw := words_len p.cs ok.cs
  have hhl : (heldF p.ss).length = 32 := by rw [heldF_len, h5]
  rw [b264]
  simp only [ay,di,dk,dl,ad,az,b0,ba,bb,ae,bc,bd,bg,bh,bj,bk,af,bl,ag,bn,bp,br,bs,bt,ah,ai,bv,aj,bw,ab,ak,bx,bz,al,c6,am,dn,dp,dq,dr,c7,du,dw,dx,dy,dz,ao,ap,c8,c9,ce,aq,au,aa,cf,cj,ck,cm,co,cq,cu,av,cw,cx,cy,cz,aw,d8,d9,a9,a8,e9,ee,ew,f0,f8,f9,fb,fe,ff,fg,fh,fi,fj,fk,fo,fq,fs,ft,fu,fw,fx,da,fy,db,g0,ge,gf,gg,gh,gi,gj,gk,gl,gm,gn,gp,gq,gs,gt,gu,gv,gw,gx,gy,gz,i0,i4,i5,i6,i8,i9,ia,dc,ax,ie,ig,ii,de,dg,ij,ik,il,im,ip,iq,ir,iu,iv,iw,iy,j0,j3,j4,j5,j6,dh,j7,j8,j9,ja,jb,cc_210,cc_211,cc_213,cc_221,cc_229,cc_243,cc_253,cc_265,cc_266,cc_268,cc_271,cc_282,cc_299,cc_302,List.map_cons,List.map_nil,Option.getD_some,jd,je,jf,jg,jh,ji,jj,jk,jl,jm,jn,jo,jp,jq,jr,jt,ju,jv,jw,jx,jy,jz,k0,k7,k8,k9,kg,er]
  refine ⟨by unfold intOk; lia, ?_⟩
  refine forGo_rng (fun k T => ∀ v8 v21 v22, T (L2 p y n v7 v8 v9 v10 v11 v12 v13 v14 v15 v16 v17 v18 v19 v20 v21 v22 v23) [(p.a, mints asked)]) (fun T h => h v8 v21 v22) (fun u8 u21 u22 => law_270 (d := 26) S ok hR) fun k hk N' hN u8 u21 u22 => ?_
  · have hnn := fun u21 u22 => hN (some (.int k)) u21 u22
    have hg : (mtxs (heldF p.ss))[k]? = some (.str (tx (hs p.ss k))) := by rw [List.getElem?_map, held_get h5 hk]; rfl
    have hhs := hs_len p.ss k
    have em : (k : Int).fmod 2 = ((k % 2 : Nat) : Int) := fmod_nat k 2
    have edv : (k : Int).fdiv 2 = ((k / 2 : Nat) : Int) := fdiv_nat k 2
    have em2 : ((k / 2 : Nat) : Int).fmod 2 = ((k / 2 % 2 : Nat) : Int) := fmod_nat (k / 2) 2
    simp only [b265,ay,di,dk,dl,ad,az,b0,ba,bb,ae,bc,bd,bg,bh,bj,bk,af,bl,ag,bn,bp,br,bs,bt,ah,ai,bv,aj,bw,ab,ak,bx,bz,al,c6,am,dn,dp,dq,dr,c7,du,dw,dx,dy,dz,ao,ap,c8,c9,ce,aq,au,aa,cf,cj,ck,cm,co,cq,cu,av,cw,cx,cy,cz,aw,d8,d9,a9,a8,e9,ee,ew,f0,f8,f9,fb,fe,ff,fg,fh,fi,fj,fk,fo,fq,fs,ft,fu,fw,fx,da,fy,db,g0,ge,gf,gg,gh,gi,gj,gk,gl,gm,gn,gp,gq,gs,gt,gu,gv,gw,gx,gy,gz,i0,i4,i5,i6,i8,i9,ia,dc,ax,ie,ig,ii,de,dg,ij,ik,il,im,ip,iq,ir,iu,iv,iw,iy,j0,j3,j4,j5,j6,dh,j7,j8,j9,ja,jb,cc_210,cc_211,cc_213,cc_221,cc_229,cc_243,cc_253,cc_265,cc_266,cc_268,cc_271,cc_282,cc_299,cc_302,List.map_cons,List.map_nil,Option.getD_some,jd,je,jf,jg,jh,ji,jj,jk,jl,jm,jn,jo,jp,jq,jr,jt,ju,jv,jw,jx,jy,jz,k0,k7,k8,k9,kg]
    rw [wp h_look (allInt_mints _)]
    refine ⟨by rw [List.length_map]; lia, ?_⟩
    cases hc : (asked.map fun (k : Nat) => (k : Int)).contains (k : Int) with
    | true => simp only [Bool.not_true]; exact hnn _ _
    | false =>
      simp only [Bool.not_false,b266,ay,di,dk,dl,ad,az,b0,ba,bb,ae,bc,bd,bg,bh,bj,bk,af,bl,ag,bn,bp,br,bs,bt,ah,ai,bv,aj,bw,ab,ak,bx,bz,al,c6,am,dn,dp,dq,dr,c7,du,dw,dx,dy,dz,ao,ap,c8,c9,ce,aq,au,aa,cf,cj,ck,cm,co,cq,cu,av,cw,cx,cy,cz,aw,d8,d9,a9,a8,e9,ee,ew,f0,f8,f9,fb,fe,ff,fg,fh,fi,fj,fk,fo,fq,fs,ft,fu,fw,fx,da,fy,db,g0,ge,gf,gg,gh,gi,gj,gk,gl,gm,gn,gp,gq,gs,gt,gu,gv,gw,gx,gy,gz,i0,i4,i5,i6,i8,i9,ia,dc,ax,ie,ig,ii,de,dg,ij,ik,il,im,ip,iq,ir,iu,iv,iw,iy,j0,j3,j4,j5,j6,dh,j7,j8,j9,ja,jb,cc_210,cc_211,cc_213,cc_221,cc_229,cc_243,cc_253,cc_265,cc_266,cc_268,cc_271,cc_282,cc_299,cc_302,List.map_cons,List.map_nil,Option.getD_some,jd,je,jf,jg,jh,ji,jj,jk,jl,jm,jn,jo,jp,jq,jr,jt,ju,jv,jw,jx,jy,jz,k0,k7,k8,k9,kg]
      refine ⟨S.f__law_price.glob, ?_⟩
      rw [kh (place_nat (by rw [List.length_map, hhl]; exact hk)) hg]
      refine ⟨intOk_nat (by lia), c_price (d := 26) S (by lia) (by lia) ?_⟩
      simp only [b267,ay,di,dk,dl,ad,az,b0,ba,bb,ae,bc,bd,bg,bh,bj,bk,af,bl,ag,bn,bp,br,bs,bt,ah,ai,bv,aj,bw,ab,ak,bx,bz,al,c6,am,dn,dp,dq,dr,c7,du,dw,dx,dy,dz,ao,ap,c8,c9,ce,aq,au,aa,cf,cj,ck,cm,co,cq,cu,av,cw,cx,cy,cz,aw,d8,d9,a9,a8,e9,ee,ew,f0,f8,f9,fb,fe,ff,fg,fh,fi,fj,fk,fo,fq,fs,ft,fu,fw,fx,da,fy,db,g0,ge,gf,gg,gh,gi,gj,gk,gl,gm,gn,gp,gq,gs,gt,gu,gv,gw,gx,gy,gz,i0,i4,i5,i6,i8,i9,ia,dc,ax,ie,ig,ii,de,dg,ij,ik,il,im,ip,iq,ir,iu,iv,iw,iy,j0,j3,j4,j5,j6,dh,j7,j8,j9,ja,jb,cc_210,cc_211,cc_213,cc_221,cc_229,cc_243,cc_253,cc_265,cc_266,cc_268,cc_271,cc_282,cc_299,cc_302,List.map_cons,List.map_nil,Option.getD_some,jd,je,jf,jg,jh,ji,jj,jk,jl,jm,jn,jo,jp,jq,jr,jt,ju,jv,jw,jx,jy,jz,k0,k7,k8,k9,kg]
      rw [kh (place_nat (by rw [List.length_map, hhl]; exact hk)) hg]
      refine ⟨intOk_nat (by lia), by simp, ?_⟩
      have lw := words_letters p.cs ok.cs
      have lh : ∀ x ∈ hs p.ss k, x ∈ letters := fun x hx => ok.sl x (hs_mem _ _ x hx)
      have hm : ∀ Dv : Nat, ((Dv : Int) - ((k / 2 % 2 : Nat) : Int)) = (Dv : Nat) ∨ ((Dv : Int) - ((k / 2 % 2 : Nat) : Int)) + 1 = (Dv : Nat) := fun Dv => by lia
      have hcm := D_comm _ (hs p.ss k).reverse p.cs.reverse (Nat.le_refl _)
      simp only [b268,ay,di,dk,dl,ad,az,b0,ba,bb,ae,bc,bd,bg,bh,bj,bk,af,bl,ag,bn,bp,br,bs,bt,ah,ai,bv,aj,bw,ab,ak,bx,bz,al,c6,am,dn,dp,dq,dr,c7,du,dw,dx,dy,dz,ao,ap,c8,c9,ce,aq,au,aa,cf,cj,ck,cm,co,cq,cu,av,cw,cx,cy,cz,aw,d8,d9,a9,a8,e9,ee,ew,f0,f8,f9,fb,fe,ff,fg,fh,fi,fj,fk,fo,fq,fs,ft,fu,fw,fx,da,fy,db,g0,ge,gf,gg,gh,gi,gj,gk,gl,gm,gn,gp,gq,gs,gt,gu,gv,gw,gx,gy,gz,i0,i4,i5,i6,i8,i9,ia,dc,ax,ie,ig,ii,de,dg,ij,ik,il,im,ip,iq,ir,iu,iv,iw,iy,j0,j3,j4,j5,j6,dh,j7,j8,j9,ja,jb,cc_210,cc_211,cc_213,cc_221,cc_229,cc_243,cc_253,cc_265,cc_266,cc_268,cc_271,cc_282,cc_299,cc_302,List.map_cons,List.map_nil,Option.getD_some,jd,je,jf,jg,jh,ji,jj,jk,jl,jm,jn,jo,jp,jq,jr,jt,ju,jv,jw,jx,jy,jz,k0,k7,k8,k9,kg,em,edv,em2]
      refine ⟨S.f__levenshtein_distance.glob, by decide, ?_⟩
      have fin : ∀ v : Nat, (!((D p.cs.reverse (hs p.ss k).reverse : Nat) : Int) == ((D p.cs.reverse (hs p.ss k).reverse : Nat) : Int)) = false := fun _ => by simp
      rcases Nat.mod_two_eq_zero_or_one k with h | h
      · rw [h, show (1 : Int) - ((0 : Nat) : Int) = ((1 : Nat) : Int) from by lia]
        rw [kh (v := .str (tx p.cs)) (n := 0) (place_nat (i := 0) (by simp)) rfl]
        refine ⟨intOk_nat (by lia), by decide, ?_⟩
        rw [kh (v := .str (tx (hs p.ss k))) (n := 1) (place_nat (i := 1) (by simp)) rfl]
        refine ⟨by unfold intOk; lia, no_py2 (by lia) (by lia), by decide, ?_⟩
        refine c_lev (d := 25) S (by lia) (by lia) lw lh ?_ ?_
        · rw [hcm]; exact hm _
        · rw [hcm]
          simp only [ay,di,dk,dl,ad,az,b0,ba,bb,ae,bc,bd,bg,bh,bj,bk,af,bl,ag,bn,bp,br,bs,bt,ah,ai,bv,aj,bw,ab,ak,bx,bz,al,c6,am,dn,dp,dq,dr,c7,du,dw,dx,dy,dz,ao,ap,c8,c9,ce,aq,au,aa,cf,cj,ck,cm,co,cq,cu,av,cw,cx,cy,cz,aw,d8,d9,a9,a8,e9,ee,ew,f0,f8,f9,fb,fe,ff,fg,fh,fi,fj,fk,fo,fq,fs,ft,fu,fw,fx,da,fy,db,g0,ge,gf,gg,gh,gi,gj,gk,gl,gm,gn,gp,gq,gs,gt,gu,gv,gw,gx,gy,gz,i0,i4,i5,i6,i8,i9,ia,dc,ax,ie,ig,ii,de,dg,ij,ik,il,im,ip,iq,ir,iu,iv,iw,iy,j0,j3,j4,j5,j6,dh,j7,j8,j9,ja,jb,beq_self_eq_true,Bool.not_true]
          exact hnn _ _
      · rw [h, show (1 : Int) - ((1 : Nat) : Int) = ((0 : Nat) : Int) from by lia]
        rw [kh (v := .str (tx (hs p.ss k))) (n := 1) (place_nat (i := 1) (by simp)) rfl]
        refine ⟨intOk_nat (by lia), by decide, ?_⟩
        rw [kh (v := .str (tx p.cs)) (n := 0) (place_nat (i := 0) (by simp)) rfl]
        refine ⟨by unfold intOk; lia, no_py2 (by lia) (by lia), by decide, ?_⟩
        refine c_lev (d := 25) S (by lia) (by lia) lh lw ?_ ?_
        · exact hm _
        · simp only [ay,di,dk,dl,ad,az,b0,ba,bb,ae,bc,bd,bg,bh,bj,bk,af,bl,ag,bn,bp,br,bs,bt,ah,ai,bv,aj,bw,ab,ak,bx,bz,al,c6,am,dn,dp,dq,dr,c7,du,dw,dx,dy,dz,ao,ap,c8,c9,ce,aq,au,aa,cf,cj,ck,cm,co,cq,cu,av,cw,cx,cy,cz,aw,d8,d9,a9,a8,e9,ee,ew,f0,f8,f9,fb,fe,ff,fg,fh,fi,fj,fk,fo,fq,fs,ft,fu,fw,fx,da,fy,db,g0,ge,gf,gg,gh,gi,gj,gk,gl,gm,gn,gp,gq,gs,gt,gu,gv,gw,gx,gy,gz,i0,i4,i5,i6,i8,i9,ia,dc,ax,ie,ig,ii,de,dg,ij,ik,il,im,ip,iq,ir,iu,iv,iw,iy,j0,j3,j4,j5,j6,dh,j7,j8,j9,ja,jb,beq_self_eq_true,Bool.not_true]
          exact hnn _ _
end Mine
namespace Mine
variable {G : Stat}
noncomputable def rowsOf (p : Par) : List Nat := (List.range 32).filter fun c => hs p.ss c == p.cs
noncomputable def truthOf (p : Par) : List Nat := (List.range 32).map fun c => if p.f c then 1 else 0
theorem f_iff {p : Par} (ok : p.Ok) (c : Nat) : p.f c = true ↔ ∃ r, r < 32 ∧ r &&& c = r ∧ hs p.ss r = p.cs := by
  unfold Par.f
  rw [List.isSublist_iff_sublist, sub_hs, ok.s5]
theorem f_rows {p : Par} (ok : p.Ok) (c : Nat) : (!(((rowsOf p).filter fun r => r &&& c == r) == [])) = p.f c := by
  rw [Bool.eq_iff_iff, f_iff ok]
  simp only [Bool.not_eq_true', beq_eq_false_iff_ne, ne_eq]
  constructor
  · intro h
    obtain ⟨r, hr⟩ := List.exists_mem_of_ne_nil _ h
    rw [List.mem_filter] at hr
    unfold rowsOf at hr
    rw [List.mem_filter, List.mem_range] at hr
    exact ⟨r, hr.1.1, beq_iff_eq.mp hr.2, beq_iff_eq.mp hr.1.2⟩
  · rintro ⟨r, h1, h2, h3⟩ h
    have : r ∈ (rowsOf p).filter fun r => r &&& c == r := by
      rw [List.mem_filter]
      unfold rowsOf
      rw [List.mem_filter, List.mem_range]
      exact ⟨⟨h1, by rw [h3]; exact beq_self_eq_true _⟩, by rw [h2]; exact beq_self_eq_true _⟩
    rw [h] at this; cases this
theorem tx_beq (a b : List Nat) : (tx a == tx b) = (a == b) := by
  rw [Bool.eq_iff_iff]; simp
theorem filter_mints (P : MV → Bool) (q : Nat → Bool) (l : List Nat) (h : ∀ c ∈ l, P (.int (c : Nat)) = q c) : (mints l).filter P = mints (l.filter q) := by
  unfold mints
  rw [List.filter_map]
  congr 1
  exact List.filter_congr fun c hc => h c hc
theorem mints_len (l : List Nat) : (mints l).length = l.length := List.length_map ..
theorem told_truth {p : Par} (ok : p.Ok) : dlen p.w (bsum p.w p.f 32) ≤ 32 ∧ mints (digs p.w (dlen p.w (bsum p.w p.f 32)) (bsum p.w p.f 32)) ++ List.replicate (32 - dlen p.w (bsum p.w p.f 32)) (MV.int 0) = mints (truthOf p) := by
  obtain ⟨w1, w2⟩ := w_facts ok.w
  have hlt := bsum_lt w1 p.f 32
  have hb := bits_le hlt
  obtain ⟨d1, d2⟩ := dlen_mul (a := bsum p.w p.f 32) w1
  have hbl := lt_bits (bsum p.w p.f 32)
  have hd : dlen p.w (bsum p.w p.f 32) ≤ 32 := by
    unfold dlen
    have h3 : Builtin.Int.intBits ((bsum p.w p.f 32 : Nat) : Int) + p.w - 1 < p.w * 33 := by lia
    have := Nat.div_lt_of_lt_mul h3
    lia
  refine ⟨hd, ?_⟩
  have hlt2 : bsum p.w p.f 32 < 2 ^ (p.w * dlen p.w (bsum p.w p.f 32)) := Nat.lt_of_lt_of_le hbl (Nat.pow_le_pow_right (by decide) d1)
  have hdig := fun i (hi : i < 32) => bsum_digit w1 p.f (n := 32) hi
  generalize dlen p.w (bsum p.w p.f 32) = L at *
  generalize bsum p.w p.f 32 = Y at *
  have tg : ∀ i, i < 32 → (mints (truthOf p))[i]? = some (.int ((if p.f i then 1 else 0 : Nat) : Int)) := fun i hi => by
    unfold mints truthOf
    rw [List.getElem?_map, List.getElem?_map, List.getElem?_range hi]; rfl
  have hdl : (mints (digs p.w L Y)).length = L := by unfold mints digs; simp
  refine List.ext_getElem? fun i => ?_
  by_cases hi : i < 32
  · rw [tg i hi]
    by_cases hL : i < L
    · rw [List.getElem?_append_left (by rw [hdl]; exact hL), digs_get, if_pos hL, hdig i hi]
    · rw [List.getElem?_append_right (by rw [hdl]; lia), hdl, List.getElem?_replicate, if_pos (by lia)]
      have h0 : Y / 2 ^ (p.w * i) = 0 := Nat.div_eq_of_lt (Nat.lt_of_lt_of_le hlt2 (Nat.pow_le_pow_right (by decide) (Nat.mul_le_mul_left _ (by lia))))
      have h1 := hdig i hi
      rw [h0, Nat.zero_mod] at h1
      rw [← h1]; rfl
  · rw [List.getElem?_eq_none (by rw [List.length_append, hdl, List.length_replicate]; lia), List.getElem?_eq_none (by unfold mints truthOf; simp; lia)]
theorem law_257 (S : SetOk G) {p : Par} (ok : p.Ok) {asked : List Nat} {v7 v8 v9 v10 v11 v12 v13 v14 v15 v16 v17 : Option MV} {N : Loc → MH → Prop} {R : MV → MH → Prop} (hal : asked.length ≤ 64) (hR : R (.bool true) [(p.a, mints asked)]) :
    exs G 27 b257 jc (LL p (bsum p.w p.f 32) (bsum p.w (fun c => !p.f c) 32) v7 v8 v9 v10 v11 v12 v13 v14 v15 v16 v17) [(p.a, mints asked)] N R := by
  have er : rangeL 0 32 1 = mints (List.range 32) := rangeL_nat 32
  have h5 := ok.s5
  have hw := words_len p.cs ok.cs
  have hhl : (heldF p.ss).length = 32 := by rw [heldF_len, h5]
  obtain ⟨w1, w2⟩ := w_facts ok.w
  have hrl : (rowsOf p).length ≤ 32 := by
    unfold rowsOf
    have := List.length_filter_le (fun c => hs p.ss c == p.cs) (List.range 32)
    rw [List.length_range] at this; exact this
  rw [b257]
  simp only [LL,ay,di,dk,dl,ad,az,b0,ba,bb,ae,bc,bd,bg,bh,bj,bk,af,bl,ag,bn,bp,br,bs,bt,ah,ai,bv,aj,bw,ab,ak,bx,bz,al,c6,am,dn,dp,dq,dr,c7,du,dw,dx,dy,dz,ao,ap,c8,c9,ce,aq,au,aa,cf,cj,ck,cm,co,cq,cu,av,cw,cx,cy,cz,aw,d8,d9,a9,a8,e9,ee,ew,f0,f8,f9,fb,fe,ff,fg,fh,fi,fj,fk,fo,fq,fs,ft,fu,fw,fx,da,fy,db,g0,ge,gf,gg,gh,gi,gj,gk,gl,gm,gn,gp,gq,gs,gt,gu,gv,gw,gx,gy,gz,i0,i4,i5,i6,i8,i9,ia,dc,ax,ie,ig,ii,de,dg,ij,ik,il,im,ip,iq,ir,iu,iv,iw,iy,j0,j3,j4,j5,j6,dh,j7,j8,j9,ja,jb,cc_210,cc_211,cc_213,cc_221,cc_229,cc_243,cc_253,cc_265,cc_266,cc_268,cc_271,cc_282,cc_299,cc_302,List.map_cons,List.map_nil,Option.getD_some,jd,je,jf,jg,jh,ji,jj,jk,jl,jm,jn,jo,jp,jq,jr,jt,ju,jv,jw,jx,jy,jz,k0,k7,k8,k9,kg,er]
  refine ⟨by unfold intOk; lia, by rw [mints_len, List.length_range]; lia, ?_⟩
  refine compGo_all (fun v : MV => match v with | .int c => hs p.ss c.toNat == p.cs | _ => false) (fun v => v) _ _ ?_ ?_ ?_
  · intro x hx K' h
    obtain ⟨c, hc, rfl⟩ := List.mem_map.mp hx
    have hc32 := List.mem_range.mp hc
    have hg : (mtxs (heldF p.ss))[c]? = some (.str (tx (hs p.ss c))) := by rw [List.getElem?_map, held_get h5 hc32]; rfl
    rw [kh (place_nat (by rw [List.length_map, hhl]; exact hc32)) hg]
    refine ⟨intOk_nat (by lia), ?_⟩
    simp only [ay,di,dk,dl,ad,az,b0,ba,bb,ae,bc,bd,bg,bh,bj,bk,af,bl,ag,bn,bp,br,bs,bt,ah,ai,bv,aj,bw,ab,ak,bx,bz,al,c6,am,dn,dp,dq,dr,c7,du,dw,dx,dy,dz,ao,ap,c8,c9,ce,aq,au,aa,cf,cj,ck,cm,co,cq,cu,av,cw,cx,cy,cz,aw,d8,d9,a9,a8,e9,ee,ew,f0,f8,f9,fb,fe,ff,fg,fh,fi,fj,fk,fo,fq,fs,ft,fu,fw,fx,da,fy,db,g0,ge,gf,gg,gh,gi,gj,gk,gl,gm,gn,gp,gq,gs,gt,gu,gv,gw,gx,gy,gz,i0,i4,i5,i6,i8,i9,ia,dc,ax,ie,ig,ii,de,dg,ij,ik,il,im,ip,iq,ir,iu,iv,iw,iy,j0,j3,j4,j5,j6,dh,j7,j8,j9,ja,jb,tx_beq]
    have hE : (hs p.ss ((c : Int)).toNat == p.cs) = (hs p.ss c == p.cs) := rfl
    simp only [hE] at h
    cases hb : hs p.ss c == p.cs with
    | true => rw [hb] at h; exact h
    | false => rw [hb] at h; exact h
  · intro x hx hp K' h; exact h
  have erow : ((mints (List.range 32)).filter (fun v : MV => match v with | .int c => hs p.ss c.toNat == p.cs | _ => false)).map (fun v => v) = mints (rowsOf p) := by
    rw [List.map_id', filter_mints _ (fun c => hs p.ss c == p.cs) _ fun c _ => rfl]; rfl
  rw [List.nil_append, erow]
  simp only [b258,ay,di,dk,dl,ad,az,b0,ba,bb,ae,bc,bd,bg,bh,bj,bk,af,bl,ag,bn,bp,br,bs,bt,ah,ai,bv,aj,bw,ab,ak,bx,bz,al,c6,am,dn,dp,dq,dr,c7,du,dw,dx,dy,dz,ao,ap,c8,c9,ce,aq,au,aa,cf,cj,ck,cm,co,cq,cu,av,cw,cx,cy,cz,aw,d8,d9,a9,a8,e9,ee,ew,f0,f8,f9,fb,fe,ff,fg,fh,fi,fj,fk,fo,fq,fs,ft,fu,fw,fx,da,fy,db,g0,ge,gf,gg,gh,gi,gj,gk,gl,gm,gn,gp,gq,gs,gt,gu,gv,gw,gx,gy,gz,i0,i4,i5,i6,i8,i9,ia,dc,ax,ie,ig,ii,de,dg,ij,ik,il,im,ip,iq,ir,iu,iv,iw,iy,j0,j3,j4,j5,j6,dh,j7,j8,j9,ja,jb,cc_210,cc_211,cc_213,cc_221,cc_229,cc_243,cc_253,cc_265,cc_266,cc_268,cc_271,cc_282,cc_299,cc_302,List.map_cons,List.map_nil,Option.getD_some,jd,je,jf,jg,jh,ji,jj,jk,jl,jm,jn,jo,jp,jq,jr,jt,ju,jv,jw,jx,jy,jz,k0,k7,k8,k9,kg,er]
  refine ⟨by unfold intOk; lia, by rw [mints_len, List.length_range]; lia, ?_⟩
  refine compGo_all (fun v : MV => match v with | .int c => hs p.ss c.toNat == p.cs | _ => false) (fun v => v) _ _ ?_ ?_ ?_
  · intro x hx K' h
    obtain ⟨c, hc, rfl⟩ := List.mem_map.mp hx
    have hc32 := List.mem_range.mp hc
    have hg : (mtxs (heldF p.ss))[c]? = some (.str (tx (hs p.ss c))) := by rw [List.getElem?_map, held_get h5 hc32]; rfl
    refine ⟨S.f__ellipsis_match.glob, ?_⟩
    rw [kh (place_nat (by rw [List.length_map, hhl]; exact hc32)) hg]
    refine ⟨intOk_nat (by lia), ?_⟩
    have hok := okWords p.cs ok.cs
    unfold okWord at hok
    simp only [Bool.and_eq_true, Bool.not_eq_true'] at hok
    refine c_ell0 S hok.2 ?_
    simp only [ay,di,dk,dl,ad,az,b0,ba,bb,ae,bc,bd,bg,bh,bj,bk,af,bl,ag,bn,bp,br,bs,bt,ah,ai,bv,aj,bw,ab,ak,bx,bz,al,c6,am,dn,dp,dq,dr,c7,du,dw,dx,dy,dz,ao,ap,c8,c9,ce,aq,au,aa,cf,cj,ck,cm,co,cq,cu,av,cw,cx,cy,cz,aw,d8,d9,a9,a8,e9,ee,ew,f0,f8,f9,fb,fe,ff,fg,fh,fi,fj,fk,fo,fq,fs,ft,fu,fw,fx,da,fy,db,g0,ge,gf,gg,gh,gi,gj,gk,gl,gm,gn,gp,gq,gs,gt,gu,gv,gw,gx,gy,gz,i0,i4,i5,i6,i8,i9,ia,dc,ax,ie,ig,ii,de,dg,ij,ik,il,im,ip,iq,ir,iu,iv,iw,iy,j0,j3,j4,j5,j6,dh,j7,j8,j9,ja,jb,tx_beq]
    have hE : (hs p.ss ((c : Int)).toNat == p.cs) = (p.cs == hs p.ss c) := Bool.beq_comm
    simp only [hE] at h
    cases hb : p.cs == hs p.ss c with
    | true => rw [hb] at h; exact h
    | false => rw [hb] at h; exact h
  · intro x hx hp K' h; exact h
  rw [List.nil_append, erow, ow (allInt_mints _) (allInt_mints _)]
  refine ⟨⟨by rw [mints_len]; lia, by rw [mints_len]; lia⟩, ?_⟩
  simp only [beq_self_eq_true,Bool.not_true,b260,ay,di,dk,dl,ad,az,b0,ba,bb,ae,bc,bd,bg,bh,bj,bk,af,bl,ag,bn,bp,br,bs,bt,ah,ai,bv,aj,bw,ab,ak,bx,bz,al,c6,am,dn,dp,dq,dr,c7,du,dw,dx,dy,dz,ao,ap,c8,c9,ce,aq,au,aa,cf,cj,ck,cm,co,cq,cu,av,cw,cx,cy,cz,aw,d8,d9,a9,a8,e9,ee,ew,f0,f8,f9,fb,fe,ff,fg,fh,fi,fj,fk,fo,fq,fs,ft,fu,fw,fx,da,fy,db,g0,ge,gf,gg,gh,gi,gj,gk,gl,gm,gn,gp,gq,gs,gt,gu,gv,gw,gx,gy,gz,i0,i4,i5,i6,i8,i9,ia,dc,ax,ie,ig,ii,de,dg,ij,ik,il,im,ip,iq,ir,iu,iv,iw,iy,j0,j3,j4,j5,j6,dh,j7,j8,j9,ja,jb,cc_210,cc_211,cc_213,cc_221,cc_229,cc_243,cc_253,cc_265,cc_266,cc_268,cc_271,cc_282,cc_299,cc_302,List.map_cons,List.map_nil,Option.getD_some,jd,je,jf,jg,jh,ji,jj,jk,jl,jm,jn,jo,jp,jq,jr,jt,ju,jv,jw,jx,jy,jz,k0,k7,k8,k9,kg,er]
  refine ⟨by unfold intOk; lia, by rw [mints_len, List.length_range]; lia, ?_⟩
  refine compGo_map (fun v : MV => match v with | .int c => MV.int ((if p.f c.toNat then 1 else 0 : Nat) : Int) | v => v) ?_ ?_ ?_
  · exact fun x hx K' h => h
  · intro x hx K' h
    obtain ⟨c, hc, rfl⟩ := List.mem_map.mp hx
    have hc32 := List.mem_range.mp hc
    refine ⟨by rw [mints_len]; lia, by rw [mints_len]; lia, ?_⟩
    refine compGo_all (fun v : MV => match v with | .int r => r.toNat &&& c == r.toNat | _ => false) (fun v => v) _ _ ?_ ?_ ?_
    · intro x hx K' h
      obtain ⟨r, hr, rfl⟩ := List.mem_map.mp hx
      simp only [ay,di,dk,dl,ad,az,b0,ba,bb,ae,bc,bd,bg,bh,bj,bk,af,bl,ag,bn,bp,br,bs,bt,ah,ai,bv,aj,bw,ab,ak,bx,bz,al,c6,am,dn,dp,dq,dr,c7,du,dw,dx,dy,dz,ao,ap,c8,c9,ce,aq,au,aa,cf,cj,ck,cm,co,cq,cu,av,cw,cx,cy,cz,aw,d8,d9,a9,a8,e9,ee,ew,f0,f8,f9,fb,fe,ff,fg,fh,fi,fj,fk,fo,fq,fs,ft,fu,fw,fx,da,fy,db,g0,ge,gf,gg,gh,gi,gj,gk,gl,gm,gn,gp,gq,gs,gt,gu,gv,gw,gx,gy,gz,i0,i4,i5,i6,i8,i9,ia,dc,ax,ie,ig,ii,de,dg,ij,ik,il,im,ip,iq,ir,iu,iv,iw,iy,j0,j3,j4,j5,j6,dh,j7,j8,j9,ja,jb,and_nat]
      have hE : (((r &&& c : Nat) : Int) == (r : Int)) = (r &&& c == r) := by
        rw [Bool.eq_iff_iff, beq_iff_eq, beq_iff_eq]; lia
      rw [hE]
      have hE2 : (((r : Int)).toNat &&& c == ((r : Int)).toNat) = (r &&& c == r) := rfl
      simp only [hE2] at h
      cases hb : r &&& c == r with
      | true => rw [hb] at h; exact h
      | false => rw [hb] at h; exact h
    · intro x hx hp K' h; exact h
    · rw [List.nil_append, List.map_id', filter_mints _ (fun r => r &&& c == r) _ fun r _ => rfl]
      have hfl : ((rowsOf p).filter fun r => r &&& c == r).length ≤ 32 := Nat.le_trans (List.length_filter_le _ _) hrl
      refine ⟨by simp, ?_⟩
      rw [ow (w := []) (allInt_mints _) rfl]
      refine ⟨⟨by rw [mints_len]; lia, by simp⟩, ?_⟩
      have hE : (!((((rowsOf p).filter fun r => r &&& c == r).map fun (k : Nat) => (k : Int)) == [])) = p.f c := by
        rw [← f_rows ok c]
        congr 1
        rw [Bool.eq_iff_iff, beq_iff_eq, beq_iff_eq, List.map_eq_nil_iff]
      rw [hE]
      have hE2 : ((if p.f ((c : Int)).toNat then 1 else 0 : Nat) : Int) = ((if p.f c then 1 else 0 : Nat) : Int) := rfl
      simp only [hE2] at h
      cases hb : p.f c with
      | true => rw [hb] at h; exact h
      | false => rw [hb] at h; exact h
  have etr : (mints (List.range 32)).map (fun v : MV => match v with | .int c => MV.int ((if p.f c.toNat then 1 else 0 : Nat) : Int) | v => v) = mints (truthOf p) := by
    unfold mints truthOf
    rw [List.map_map, List.map_map]
    exact List.map_congr_left fun c _ => rfl
  rw [etr]
  obtain ⟨t1, t2⟩ := told_truth ok
  have hyb := bits_le (bsum_lt w1 p.f 32)
  simp only [b261,ay,di,dk,dl,ad,az,b0,ba,bb,ae,bc,bd,bg,bh,bj,bk,af,bl,ag,bn,bp,br,bs,bt,ah,ai,bv,aj,bw,ab,ak,bx,bz,al,c6,am,dn,dp,dq,dr,c7,du,dw,dx,dy,dz,ao,ap,c8,c9,ce,aq,au,aa,cf,cj,ck,cm,co,cq,cu,av,cw,cx,cy,cz,aw,d8,d9,a9,a8,e9,ee,ew,f0,f8,f9,fb,fe,ff,fg,fh,fi,fj,fk,fo,fq,fs,ft,fu,fw,fx,da,fy,db,g0,ge,gf,gg,gh,gi,gj,gk,gl,gm,gn,gp,gq,gs,gt,gu,gv,gw,gx,gy,gz,i0,i4,i5,i6,i8,i9,ia,dc,ax,ie,ig,ii,de,dg,ij,ik,il,im,ip,iq,ir,iu,iv,iw,iy,j0,j3,j4,j5,j6,dh,j7,j8,j9,ja,jb,cc_210,cc_211,cc_213,cc_221,cc_229,cc_243,cc_253,cc_265,cc_266,cc_268,cc_271,cc_282,cc_299,cc_302,List.map_cons,List.map_nil,Option.getD_some,jd,je,jf,jg,jh,ji,jj,jk,jl,jm,jn,jo,jp,jq,jr,jt,ju,jv,jw,jx,jy,jz,k0,k7,k8,k9,kg]
  refine ⟨S.f__int2digits.glob, (c_i2d (d := 20) S w1 (by lia) (by lia) (by lia) ?_).up (by decide)⟩
  simp only [b262,ay,di,dk,dl,ad,az,b0,ba,bb,ae,bc,bd,bg,bh,bj,bk,af,bl,ag,bn,bp,br,bs,bt,ah,ai,bv,aj,bw,ab,ak,bx,bz,al,c6,am,dn,dp,dq,dr,c7,du,dw,dx,dy,dz,ao,ap,c8,c9,ce,aq,au,aa,cf,cj,ck,cm,co,cq,cu,av,cw,cx,cy,cz,aw,d8,d9,a9,a8,e9,ee,ew,f0,f8,f9,fb,fe,ff,fg,fh,fi,fj,fk,fo,fq,fs,ft,fu,fw,fx,da,fy,db,g0,ge,gf,gg,gh,gi,gj,gk,gl,gm,gn,gp,gq,gs,gt,gu,gv,gw,gx,gy,gz,i0,i4,i5,i6,i8,i9,ia,dc,ax,ie,ig,ii,de,dg,ij,ik,il,im,ip,iq,ir,iu,iv,iw,iy,j0,j3,j4,j5,j6,dh,j7,j8,j9,ja,jb,cc_210,cc_211,cc_213,cc_221,cc_229,cc_243,cc_253,cc_265,cc_266,cc_268,cc_271,cc_282,cc_299,cc_302,List.map_cons,List.map_nil,Option.getD_some,jd,je,jf,jg,jh,ji,jj,jk,jl,jm,jn,jo,jp,jq,jr,jt,ju,jv,jw,jx,jy,jz,k0,k7,k8,k9,kg]
  have hdl : (mints (digs p.w (dlen p.w (bsum p.w p.f 32)) (bsum p.w p.f 32))).length = dlen p.w (bsum p.w p.f 32) := by unfold mints digs; simp
  have e32 : (32 : Int) - (dlen p.w (bsum p.w p.f 32) : Int) = ((32 - dlen p.w (bsum p.w p.f 32) : Nat) : Int) := by lia
  rw [hdl, e32]
  refine ⟨by simp, by lia, ⟨by lia, by lia⟩, ?_⟩
  rw [toNat_nat]
  refine ⟨by rw [List.length_replicate]; lia, ?_⟩
  rw [t2, ow (allInt_mints _) (allInt_mints _)]
  have htl : (truthOf p).length = 32 := by unfold truthOf; simp
  refine ⟨⟨by rw [mints_len]; lia, by rw [mints_len]; lia⟩, ?_⟩
  have hno : ((bsum p.w (fun c => !p.f c) 32 : Nat) : Int) = (((stepsF p.w 5).getD 31 0 : Nat) : Int) - ((bsum p.w p.f 32 : Nat) : Int) := by
    rw [whole_eq ok.w]
    have := bsum_not (w := p.w) p.f 32
    lia
  simp only [beq_self_eq_true,Bool.not_true,ay,di,dk,dl,ad,az,b0,ba,bb,ae,bc,bd,bg,bh,bj,bk,af,bl,ag,bn,bp,br,bs,bt,ah,ai,bv,aj,bw,ab,ak,bx,bz,al,c6,am,dn,dp,dq,dr,c7,du,dw,dx,dy,dz,ao,ap,c8,c9,ce,aq,au,aa,cf,cj,ck,cm,co,cq,cu,av,cw,cx,cy,cz,aw,d8,d9,a9,a8,e9,ee,ew,f0,f8,f9,fb,fe,ff,fg,fh,fi,fj,fk,fo,fq,fs,ft,fu,fw,fx,da,fy,db,g0,ge,gf,gg,gh,gi,gj,gk,gl,gm,gn,gp,gq,gs,gt,gu,gv,gw,gx,gy,gz,i0,i4,i5,i6,i8,i9,ia,dc,ax,ie,ig,ii,de,dg,ij,ik,il,im,ip,iq,ir,iu,iv,iw,iy,j0,j3,j4,j5,j6,dh,j7,j8,j9,ja,jb]
  rw [← hno]
  simp only [beq_self_eq_true, Bool.not_true, a9]
  exact law_264 S ok hal hR
end Mine
namespace Mine
variable {G : Stat}
noncomputable def chGood (ch : List Nat) : Bool := ch.all (fun x => decide (x < 32)) && decide (ch.Pairwise (fun x y => x &&& y = x)) && decide (1 ≤ ch.length) && decide (ch.length ≤ 6) && decide ch.Nodup
noncomputable def chHansel (ch : List Nat) : Bool := (List.range 6).all fun i => match ch[i]?, ch[i + 2]? with
  | some x, some z => (chainsAt 5).any fun c => decide (c.length < ch.length) && c.any fun y => x &&& y == x && y &&& z == y
  | _, _ => true
theorem chGoods : ((chainsAt 5).all fun ch => chGood ch && chHansel ch) = true := by decide +kernel
theorem chDisj : (chainsAt 5).Pairwise (fun a b => ∀ x ∈ a, x ∉ b) := by decide +kernel
theorem chAll : ((List.range 32).all fun c => (chainsAt 5).any fun ch => ch.contains c) = true := by decide +kernel
theorem chain_in {l : List (List Nat)} (hp : l.Perm (chainsAt 5)) (hs : l.Pairwise (fun a b => a.length ≤ b.length)) {k : Nat} (hk : k < l.length) : ChainIn (l.take k) l[k] := by
  have hmem : l[k] ∈ chainsAt 5 := hp.mem_iff.mp (List.getElem_mem hk)
  have hg := List.all_eq_true.mp chGoods _ hmem
  rw [Bool.and_eq_true] at hg
  obtain ⟨g1, g2⟩ := hg
  unfold chGood at g1
  simp only [Bool.and_eq_true, List.all_eq_true, decide_eq_true_eq] at g1
  obtain ⟨⟨⟨⟨a1, a2⟩, a3⟩, a4⟩, a5⟩ := g1
  have hd : l.Pairwise (fun a b => ∀ x ∈ a, x ∉ b) := (hp.pairwise_iff (fun {a b} h x hx hxa => h x hxa hx)).mpr chDisj
  refine ⟨a1, a2, a3, a4, a5, fun x hx c hc hxc => ?_, fun i x z hx hz => ?_⟩
  · obtain ⟨i, hi, rfl⟩ := List.getElem_of_mem hc
    rw [List.length_take] at hi
    rw [List.getElem_take] at hxc
    exact List.pairwise_iff_getElem.mp hd i k (by lia) hk (by lia) x hxc hx
  · unfold chHansel at g2
    have hi : i < 6 := by have := (List.getElem?_eq_some_iff.mp hx).1; lia
    have := List.all_eq_true.mp g2 i (List.mem_range.mpr hi)
    rw [hx, hz] at this
    obtain ⟨c, hc, h1⟩ := List.any_eq_true.mp this
    rw [Bool.and_eq_true] at h1
    obtain ⟨y, hy, h2⟩ := List.any_eq_true.mp h1.2
    simp only [Bool.and_eq_true, beq_iff_eq] at h2
    have hlt := of_decide_eq_true h1.1
    obtain ⟨j, hj, e⟩ := List.getElem_of_mem (hp.mem_iff.mpr hc)
    have hjk : j < k := by
      refine Nat.lt_of_not_le fun q => ?_
      rcases Nat.lt_or_ge k j with r | r
      · have := List.pairwise_iff_getElem.mp hs k j hk hj r
        rw [e] at this; lia
      · have : j = k := by lia
        subst this; rw [e] at hlt; lia
    refine ⟨c, ?_, y, hy, h2.1, h2.2⟩
    rw [← e, List.mem_take_iff_getElem]
    exact ⟨j, by lia, rfl⟩
theorem f_mono {p : Par} (ok : p.Ok) : ∀ x y, y < 32 → p.f x = true → x &&& y = x → p.f y = true := fun x y _ hx hs => by
  obtain ⟨r, h1, h2, h3⟩ := (f_iff ok x).mp hx
  exact (f_iff ok y).mpr ⟨r, h1, sub_trans h2 hs, h3⟩
theorem law_235 (S : SetOk G) {p : Par} (ok : p.Ok) {v7 v8 v9 v10 v11 v12 v13 v14 v15 v16 v17 : Option MV} {N : Loc → MH → Prop} {R : MV → MH → Prop} (hR : ∀ H, R (.bool true) H) :
    exs G 27 b235 jc (LL p 0 0 v7 v8 v9 v10 v11 v12 v13 v14 v15 v16 v17) [(p.a, [])] N R := by
  rw [b235]
  simp only [a8, av, ab, ag, aj]
  refine ⟨S.f__law_chains.glob, c_chains (d := 26) S (by decide) fun l hp hs => ?_⟩
  have hlen : l.length = 10 := by rw [hp.length_eq]; decide +kernel
  have hall : ∀ ch ∈ l, ∀ x ∈ ch, x < 32 := fun ch hc x hx => by
    have := List.all_eq_true.mp chGoods _ (hp.mem_iff.mp hc)
    rw [Bool.and_eq_true] at this
    unfold chGood at this
    simp only [Bool.and_eq_true, List.all_eq_true, decide_eq_true_eq] at this
    exact this.1.1.1.1.1 x hx
  have alen : ∀ {done : List (List Nat)} {U D : Nat → Bool} {asked : List Nat}, (∀ c ∈ done, c ∈ l) → LInv p.f done U D asked → asked.length ≤ 64 := fun {done U D asked} hdl L => by
    have := pigeon 32 asked L.nd fun x hx => by
      obtain ⟨ch, h1, h2⟩ := L.ask x hx
      exact hall ch (hdl ch h1) x h2
    lia
  rw [dh, List.length_map]
  refine ⟨by lia, ?_⟩
  refine forGo_ch (fun k T => ∀ U D asked v7 v8 v9 v10 v11 v12 v13 v14 v15 v16 v17, LInv p.f (l.take k) U D asked → T (LL p (bsum p.w U 32) (bsum p.w D 32) v7 v8 v9 v10 v11 v12 v13 v14 v15 v16 v17) [(p.a, mints asked)]) (fun T h => ?_) ?_ ?_
  · have := h (fun _ => false) (fun _ => false) [] v7 v8 v9 v10 v11 v12 v13 v14 v15 v16 v17 ⟨fun _ _ _ h _ => h, fun _ _ _ h _ => h, fun _ _ h => (by cases h), fun _ _ h => (by cases h), fun ch h => (by cases h), .nil, fun x h => (by cases h)⟩
    rw [bsum_false] at this
    exact this
  · intro U D asked v7 v8 v9 v10 v11 v12 v13 v14 v15 v16 v17 L
    rw [List.take_length] at L
    have known : ∀ c, c < 32 → U c = true ∨ D c = true := fun c hc => by
      have := List.all_eq_true.mp chAll c (List.mem_range.mpr hc)
      obtain ⟨ch, h1, h2⟩ := List.any_eq_true.mp this
      exact L.kn ch (hp.mem_iff.mpr h1) c (List.contains_iff_mem.mp h2)
    have hU : ∀ c, c < 32 → U c = p.f c := fun c hc => by
      cases hu : U c with
      | true => exact (L.uf c hc hu).symm
      | false =>
        rcases known c hc with q | q
        · rw [hu] at q; cases q
        · exact (L.df c hc q).symm
    have hD : ∀ c, c < 32 → D c = !p.f c := fun c hc => by
      cases hd : D c with
      | true => rw [L.df c hc hd]; rfl
      | false =>
        rcases known c hc with q | q
        · rw [L.uf c hc q]; rfl
        · rw [hd] at q; cases q
    rw [bsum_congr hU, bsum_congr hD]
    exact law_257 S ok (alen (fun _ h => h) L) (hR _)
  · intro k x hx N' hN U D asked v7 v8 v9 v10 v11 v12 v13 v14 v15 v16 v17 L
    obtain ⟨hk, rfl⟩ := List.getElem?_eq_some_iff.mp hx
    have C := chain_in hp hs hk
    have hsub : ∀ c ∈ l.take k, c ∈ l := fun c h => List.mem_of_mem_take h
    obtain ⟨low, spot, high, K⟩ := cut_of L C (fun c hc => hall c (hsub c hc)) (f_mono ok)
    have htk : l.take (k + 1) = l.take k ++ [l[k]] := by rw [List.take_add_one, List.getElem?_eq_getElem hk]; rfl
    rw [htk] at hN
    simp only [LL, jd, je, jf, jg, jh, ji, jj, jk, jl, jm, jn, jo, jp, jq, jr, jt, ju, jv, jw, jx, jy, jz, k0, k7, k8, k9, kg, List.set_cons_zero, List.set_cons_succ, true_and]
    refine law_236 S ok K C.lt C.len (alen hsub L) (fun js j1 j2 => (step_of L C K (f_mono ok) j1 j2).nd) fun js u8 u9 u10 u11 u12 u13 u14 u15 u16 u17 j1 j2 => ?_
    exact hN _ _ _ _ _ _ _ _ _ _ _ _ _ _ (step_of L C K (f_mono ok) j1 j2)
theorem slice_to' {α : Type} (xs : List α) (n : Nat) : sliceL xs none (some (n : Int)) = xs.take n := by
  unfold sliceL clampS
  simp only [Option.map_some, Option.getD_some, Option.map_none, Option.getD_none, List.drop_zero]
  rw [if_pos (by lia), toNat_nat]
  rcases Nat.le_total n xs.length with h | h
  · rw [Nat.min_eq_left h]
  · rw [Nat.min_eq_right h, List.take_length, List.take_of_length_le h]
theorem slice_from2 {α : Type} (xs : List α) (n : Nat) : sliceL xs (some (n : Int)) none = xs.drop n := by
  unfold sliceL clampS
  simp only [Option.map_some, Option.getD_some, Option.map_none, Option.getD_none, List.take_length]
  rw [if_pos (by lia), toNat_nat]
  rcases Nat.le_total n xs.length with h | h
  · rw [Nat.min_eq_left h]
  · rw [Nat.min_eq_right h, List.drop_length, List.drop_eq_nil_of_le h]
theorem letters1 : ∀ a ∈ letters, [a] ∈ allWords := by decide +kernel
theorem letters2 : ∀ a ∈ letters, ∀ b ∈ letters, [a, b] ∈ allWords := by decide +kernel
theorem letters3 : ∀ a ∈ letters, ∀ b ∈ letters, ∀ c ∈ letters, [a, b, c] ∈ allWords := by decide +kernel
theorem mem_words {cs : List Nat} (h1 : 1 ≤ cs.length) (h2 : cs.length ≤ 3) (h : ∀ x ∈ cs, x ∈ letters) : cs ∈ allWords := by
  match cs, h1, h2, h with
  | [a], _, _, h => exact letters1 a (h a (by simp))
  | [a, b], _, _, h => exact letters2 a (h a (by simp)) b (h b (by simp))
  | [a, b, c], _, _, h => exact letters3 a (h a (by simp)) b (h b (by simp)) c (h c (by simp))
theorem hs_nil : ∀ (xs : List Nat) (c : Nat), c < 2 ^ xs.length → hs xs c = [] → c = 0
  | [], c, h, _ => by simp at h; lia
  | x :: xs, c, h, e => by
    rw [List.length_cons, Nat.pow_succ] at h
    rw [hs] at e
    split at e
    · cases e
    · have := hs_nil xs (c / 2) (by lia) e; lia
theorem signOf_letter (x : Int) : signOf x ∈ letters := by
  unfold signOf; split
  · decide
  · split <;> decide
theorem width_get (i : Int) (h0 : 0 ≤ i) (h1 : i < 8) : ∃ n w, place 8 i = some n ∧ ([MV.int 1, MV.int 2, MV.int 3, MV.int 1, MV.int 600, MV.int 2, MV.int 3, MV.int 1] : List MV)[n]? = some (.int (w : Nat)) ∧ w ∈ widths := by
  have h : i = 0 ∨ i = 1 ∨ i = 2 ∨ i = 3 ∨ i = 4 ∨ i = 5 ∨ i = 6 ∨ i = 7 := by lia
  rcases h with rfl | rfl | rfl | rfl | rfl | rfl | rfl | rfl
  · exact ⟨0, 1, by decide, rfl, by decide⟩
  · exact ⟨1, 2, by decide, rfl, by decide⟩
  · exact ⟨2, 3, by decide, rfl, by decide⟩
  · exact ⟨3, 1, by decide, rfl, by decide⟩
  · exact ⟨4, 600, by decide, rfl, by decide⟩
  · exact ⟨5, 2, by decide, rfl, by decide⟩
  · exact ⟨6, 3, by decide, rfl, by decide⟩
  · exact ⟨7, 1, by decide, rfl, by decide⟩
theorem extra_get (i : Int) (h0 : 0 ≤ i) (h1 : i < 3) : ∃ n e, place 3 i = some n ∧ ([MV.str (Str.ofString ""), MV.str (Str.ofString ""), MV.str (Str.ofString "A")] : List MV)[n]? = some (.str (tx e)) ∧ e.length ≤ 1 ∧ ∀ x ∈ e, x ∈ letters := by
  have e1 : Str.ofString "" = tx [] := by decide +kernel
  have e2 : Str.ofString "A" = tx [65] := by decide +kernel
  rw [e1, e2]
  have h : i = 0 ∨ i = 1 ∨ i = 2 := by lia
  rcases h with rfl | rfl | rfl
  · exact ⟨0, [], by decide, rfl, by decide, by decide⟩
  · exact ⟨1, [], by decide, rfl, by decide, by decide⟩
  · exact ⟨2, [65], by decide, rfl, by decide, by decide⟩
theorem no_py_c {x : Int} {b : Nat} (hb : b < 2 ^ 20) : Builtin.divisionGoesByPylong x (b : Int) = false := by
  unfold Builtin.divisionGoesByPylong
  rw [Bool.and_eq_false_iff]
  left
  have hb1 : (b : Int).natAbs = b := rfl
  simp only [hb1]
  refine decide_eq_false ?_
  by_cases h0 : ((b : Int) == 0) = true
  · rw [if_pos h0]; lia
  · rw [if_neg h0]
    have : b.log2 < 23 := log2_lt' (by lia) (by simpa using h0)
    lia
theorem c_law (S : SetOk G) {sc : List Int} (hsc : sc.length ≤ 63) : Calls G 28 (.fn 127) [.list (sc.map .int)] [] [] (fun v _ => v = .bool true) := by
  refine calls_fn S.st S.f_law.fn (bd_law S _) ?_
  have e : l0 jc [("script", .list (sc.map .int))] = [some (.list (sc.map .int)), none, none, none, none, none, none, none, none, none, none, none, none, none, none, none, none, none, none, none, none, none, none, none, none, none, none] := rfl
  rw [e, qc, b226]
  simp only [ay,di,dk,dl,ad,az,b0,ba,bb,ae,bc,bd,bg,bh,bj,bk,af,bl,ag,bn,bp,br,bs,bt,ah,ai,bv,aj,bw,ab,ak,bx,bz,al,c6,am,dn,dp,dq,dr,c7,du,dw,dx,dy,dz,ao,ap,c8,c9,ce,aq,au,aa,cf,cj,ck,cm,co,cq,cu,av,cw,cx,cy,cz,aw,d8,d9,a9,a8,e9,ee,ew,f0,f8,f9,fb,fe,ff,fg,fh,fi,fj,fk,fo,fq,fs,ft,fu,fw,fx,da,fy,db,g0,ge,gf,gg,gh,gi,gj,gk,gl,gm,gn,gp,gq,gs,gt,gu,gv,gw,gx,gy,gz,i0,i4,i5,i6,i8,i9,ia,dc,ax,ie,ig,ii,de,dg,ij,ik,il,im,ip,iq,ir,iu,iv,iw,iy,j0,j3,j4,j5,j6,dh,j7,j8,j9,ja,jb,jd,je,jf,jg,jh,ji,jj,jk,jl,jm,jn,jo,jp,jq,jr,jt,ju,jv,jw,jx,jy,jz,k0,k7,k8,k9,kg]
  rw [wr (allInt_map _)]
  simp only [b227,ay,di,dk,dl,ad,az,b0,ba,bb,ae,bc,bd,bg,bh,bj,bk,af,bl,ag,bn,bp,br,bs,bt,ah,ai,bv,aj,bw,ab,ak,bx,bz,al,c6,am,dn,dp,dq,dr,c7,du,dw,dx,dy,dz,ao,ap,c8,c9,ce,aq,au,aa,cf,cj,ck,cm,co,cq,cu,av,cw,cx,cy,cz,aw,d8,d9,a9,a8,e9,ee,ew,f0,f8,f9,fb,fe,ff,fg,fh,fi,fj,fk,fo,fq,fs,ft,fu,fw,fx,da,fy,db,g0,ge,gf,gg,gh,gi,gj,gk,gl,gm,gn,gp,gq,gs,gt,gu,gv,gw,gx,gy,gz,i0,i4,i5,i6,i8,i9,ia,dc,ax,ie,ig,ii,de,dg,ij,ik,il,im,ip,iq,ir,iu,iv,iw,iy,j0,j3,j4,j5,j6,dh,j7,j8,j9,ja,jb,jd,je,jf,jg,jh,ji,jj,jk,jl,jm,jn,jo,jp,jq,jr,jt,ju,jv,jw,jx,jy,jz,k0,k7,k8,k9,kg]
  refine ⟨by simp, ⟨by decide, no_py_c (b := 93) (by lia)⟩, by decide, ?_⟩
  obtain ⟨n8, w, p8, g8, hw⟩ := width_get ((sc.sum.fdiv 93).fmod 8) (Int.fmod_nonneg_of_pos _ (by decide)) (Int.fmod_lt_of_pos _ (by decide))
  rw [kh (xs := [MV.int 1, MV.int 2, MV.int 3, MV.int 1, MV.int 600, MV.int 2, MV.int 3, MV.int 1]) p8 g8]
  refine ⟨?_, ?_⟩
  · have h1 := Int.fmod_nonneg_of_pos (sc.sum.fdiv 93) (show (0 : Int) < 8 by decide)
    have h2 := Int.fmod_lt_of_pos (sc.sum.fdiv 93) (show (0 : Int) < 8 by decide)
    unfold intOk; lia
  simp only [b228,ay,di,dk,dl,ad,az,b0,ba,bb,ae,bc,bd,bg,bh,bj,bk,af,bl,ag,bn,bp,br,bs,bt,ah,ai,bv,aj,bw,ab,ak,bx,bz,al,c6,am,dn,dp,dq,dr,c7,du,dw,dx,dy,dz,ao,ap,c8,c9,ce,aq,au,aa,cf,cj,ck,cm,co,cq,cu,av,cw,cx,cy,cz,aw,d8,d9,a9,a8,e9,ee,ew,f0,f8,f9,fb,fe,ff,fg,fh,fi,fj,fk,fo,fq,fs,ft,fu,fw,fx,da,fy,db,g0,ge,gf,gg,gh,gi,gj,gk,gl,gm,gn,gp,gq,gs,gt,gu,gv,gw,gx,gy,gz,i0,i4,i5,i6,i8,i9,ia,dc,ax,ie,ig,ii,de,dg,ij,ik,il,im,ip,iq,ir,iu,iv,iw,iy,j0,j3,j4,j5,j6,dh,j7,j8,j9,ja,jb,jd,je,jf,jg,jh,ji,jj,jk,jl,jm,jn,jo,jp,jq,jr,jt,ju,jv,jw,jx,jy,jz,k0,k7,k8,k9,kg,List.length_map]
  refine ⟨S.f__law_held.glob, by lia, by simp, by lia, by simp, ?_⟩
  have s1 : sliceL (sc.map MV.int) none (some 5) = (sc.take 5).map MV.int := by
    have := slice_to' (sc.map MV.int) 5
    rw [← List.map_take] at this; exact this
  have s2 : sliceL [MV.int 0, MV.int 1, MV.int 0, MV.int 2, MV.int 1] (some (sc.length : Int)) none = (([0, 1, 0, 2, 1] : List Int).drop sc.length).map MV.int := by
    rw [slice_from2, List.map_drop]; rfl
  rw [s1, s2, ← List.map_append]
  have hnl : (sc.take 5 ++ ([0, 1, 0, 2, 1] : List Int).drop sc.length).length = 5 := by
    rw [List.length_append, List.length_take, List.length_drop]
    show min 5 sc.length + (5 - sc.length) = 5
    lia
  generalize sc.take 5 ++ ([0, 1, 0, 2, 1] : List Int).drop sc.length = nums at *
  refine ⟨by simp; lia, c_held (d := 26) S (by lia) ?_⟩
  have hsl : (nums.map signOf).length = 5 := by rw [List.length_map]; exact hnl
  have hslt : ∀ x ∈ nums.map signOf, x ∈ letters := fun x hx => by
    obtain ⟨y, _, rfl⟩ := List.mem_map.mp hx; exact signOf_letter y
  generalize nums.map signOf = ss at *
  obtain ⟨w1, w2⟩ := w_facts hw
  simp only [b229,ay,di,dk,dl,ad,az,b0,ba,bb,ae,bc,bd,bg,bh,bj,bk,af,bl,ag,bn,bp,br,bs,bt,ah,ai,bv,aj,bw,ab,ak,bx,bz,al,c6,am,dn,dp,dq,dr,c7,du,dw,dx,dy,dz,ao,ap,c8,c9,ce,aq,au,aa,cf,cj,ck,cm,co,cq,cu,av,cw,cx,cy,cz,aw,d8,d9,a9,a8,e9,ee,ew,f0,f8,f9,fb,fe,ff,fg,fh,fi,fj,fk,fo,fq,fs,ft,fu,fw,fx,da,fy,db,g0,ge,gf,gg,gh,gi,gj,gk,gl,gm,gn,gp,gq,gs,gt,gu,gv,gw,gx,gy,gz,i0,i4,i5,i6,i8,i9,ia,dc,ax,ie,ig,ii,de,dg,ij,ik,il,im,ip,iq,ir,iu,iv,iw,iy,j0,j3,j4,j5,j6,dh,j7,j8,j9,ja,jb,jd,je,jf,jg,jh,ji,jj,jk,jl,jm,jn,jo,jp,jq,jr,jt,ju,jv,jw,jx,jy,jz,k0,k7,k8,k9,kg]
  refine ⟨S.f__law_steps.glob, c_steps (d := 26) S w1 w2 ?_⟩
  simp only [b230,ay,di,dk,dl,ad,az,b0,ba,bb,ae,bc,bd,bg,bh,bj,bk,af,bl,ag,bn,bp,br,bs,bt,ah,ai,bv,aj,bw,ab,ak,bx,bz,al,c6,am,dn,dp,dq,dr,c7,du,dw,dx,dy,dz,ao,ap,c8,c9,ce,aq,au,aa,cf,cj,ck,cm,co,cq,cu,av,cw,cx,cy,cz,aw,d8,d9,a9,a8,e9,ee,ew,f0,f8,f9,fb,fe,ff,fg,fh,fi,fj,fk,fo,fq,fs,ft,fu,fw,fx,da,fy,db,g0,ge,gf,gg,gh,gi,gj,gk,gl,gm,gn,gp,gq,gs,gt,gu,gv,gw,gx,gy,gz,i0,i4,i5,i6,i8,i9,ia,dc,ax,ie,ig,ii,de,dg,ij,ik,il,im,ip,iq,ir,iu,iv,iw,iy,j0,j3,j4,j5,j6,dh,j7,j8,j9,ja,jb,jd,je,jf,jg,jh,ji,jj,jk,jl,jm,jn,jo,jp,jq,jr,jt,ju,jv,jw,jx,jy,jz,k0,k7,k8,k9,kg]
  rw [kh (k := 31) (n := 31) (place_nat (i := 31) (by rw [mints_len, stepsF_len]; lia)) (steps_get (by lia))]
  refine ⟨by unfold intOk; lia, ?_⟩
  have hhl : (heldF ss).length = 32 := by rw [heldF_len, hsl]
  have m0 := Int.fmod_nonneg_of_pos (sc.sum + 2) (show (0 : Int) < 31 by decide)
  have m1 := Int.fmod_lt_of_pos (sc.sum + 2) (show (0 : Int) < 31 by decide)
  obtain ⟨j, hj⟩ := Int.eq_ofNat_of_zero_le (show 0 ≤ (sc.sum + 2).fmod 31 + 1 by lia)
  have hj1 : 1 ≤ j ∧ j < 32 := by lia
  have hg : (mtxs (heldF ss))[j]? = some (.str (tx (hs ss j))) := by rw [List.getElem?_map, held_get hsl hj1.2]; rfl
  simp only [b231,ay,di,dk,dl,ad,az,b0,ba,bb,ae,bc,bd,bg,bh,bj,bk,af,bl,ag,bn,bp,br,bs,bt,ah,ai,bv,aj,bw,ab,ak,bx,bz,al,c6,am,dn,dp,dq,dr,c7,du,dw,dx,dy,dz,ao,ap,c8,c9,ce,aq,au,aa,cf,cj,ck,cm,co,cq,cu,av,cw,cx,cy,cz,aw,d8,d9,a9,a8,e9,ee,ew,f0,f8,f9,fb,fe,ff,fg,fh,fi,fj,fk,fo,fq,fs,ft,fu,fw,fx,da,fy,db,g0,ge,gf,gg,gh,gi,gj,gk,gl,gm,gn,gp,gq,gs,gt,gu,gv,gw,gx,gy,gz,i0,i4,i5,i6,i8,i9,ia,dc,ax,ie,ig,ii,de,dg,ij,ik,il,im,ip,iq,ir,iu,iv,iw,iy,j0,j3,j4,j5,j6,dh,j7,j8,j9,ja,jb,jd,je,jf,jg,jh,ji,jj,jk,jl,jm,jn,jo,jp,jq,jr,jt,ju,jv,jw,jx,jy,jz,k0,k7,k8,k9,kg,hj]
  refine ⟨by decide, ?_⟩
  rw [kh (place_nat (by rw [List.length_map, hhl]; exact hj1.2)) hg]
  refine ⟨intOk_nat (by lia), ?_⟩
  have hhs := hs_len ss j
  simp only [ay,di,dk,dl,ad,az,b0,ba,bb,ae,bc,bd,bg,bh,bj,bk,af,bl,ag,bn,bp,br,bs,bt,ah,ai,bv,aj,bw,ab,ak,bx,bz,al,c6,am,dn,dp,dq,dr,c7,du,dw,dx,dy,dz,ao,ap,c8,c9,ce,aq,au,aa,cf,cj,ck,cm,co,cq,cu,av,cw,cx,cy,cz,aw,d8,d9,a9,a8,e9,ee,ew,f0,f8,f9,fb,fe,ff,fg,fh,fi,fj,fk,fo,fq,fs,ft,fu,fw,fx,da,fy,db,g0,ge,gf,gg,gh,gi,gj,gk,gl,gm,gn,gp,gq,gs,gt,gu,gv,gw,gx,gy,gz,i0,i4,i5,i6,i8,i9,ia,dc,ax,ie,ig,ii,de,dg,ij,ik,il,im,ip,iq,ir,iu,iv,iw,iy,j0,j3,j4,j5,j6,dh,j7,j8,j9,ja,jb,tx_len]
  refine ⟨by lia, by simp, ⟨by decide, no_py_c (b := 31) (by lia)⟩, by decide, ?_⟩
  obtain ⟨n3, ex3, p3, g3, le3, l3⟩ := extra_get ((sc.sum.fdiv 31).fmod 3) (Int.fmod_nonneg_of_pos _ (by decide)) (Int.fmod_lt_of_pos _ (by decide))
  rw [kh (xs := [MV.str (Str.ofString ""), MV.str (Str.ofString ""), MV.str (Str.ofString "A")]) p3 g3]
  refine ⟨?_, ?_⟩
  · have h1 := Int.fmod_nonneg_of_pos (sc.sum.fdiv 31) (show (0 : Int) < 3 by decide)
    have h2 := Int.fmod_lt_of_pos (sc.sum.fdiv 31) (show (0 : Int) < 3 by decide)
    unfold intOk; lia
  have s3 : sliceL (hs ss j) none (some 2) = (hs ss j).take 2 := slice_to' (hs ss j) 2
  have s4 : (⟨(sliceL (hs ss j) none (some 2)).toArray⟩ : Str) = tx ((hs ss j).take 2) := by rw [s3]
  simp only [ay,di,dk,dl,ad,az,b0,ba,bb,ae,bc,bd,bg,bh,bj,bk,af,bl,ag,bn,bp,br,bs,bt,ah,ai,bv,aj,bw,ab,ak,bx,bz,al,c6,am,dn,dp,dq,dr,c7,du,dw,dx,dy,dz,ao,ap,c8,c9,ce,aq,au,aa,cf,cj,ck,cm,co,cq,cu,av,cw,cx,cy,cz,aw,d8,d9,a9,a8,e9,ee,ew,f0,f8,f9,fb,fe,ff,fg,fh,fi,fj,fk,fo,fq,fs,ft,fu,fw,fx,da,fy,db,g0,ge,gf,gg,gh,gi,gj,gk,gl,gm,gn,gp,gq,gs,gt,gu,gv,gw,gx,gy,gz,i0,i4,i5,i6,i8,i9,ia,dc,ax,ie,ig,ii,de,dg,ij,ik,il,im,ip,iq,ir,iu,iv,iw,iy,j0,j3,j4,j5,j6,dh,j7,j8,j9,ja,jb,jd,je,jf,jg,jh,ji,jj,jk,jl,jm,jn,jo,jp,jq,jr,jt,ju,jv,jw,jx,jy,jz,k0,k7,k8,k9,kg,s4,tx_append,tx_len]
  have hcs : (hs ss j).take 2 ++ ex3 ∈ allWords := by
    have hne : hs ss j ≠ [] := fun h => by
      have := hs_nil ss j (by rw [hsl]; lia) h; lia
    have hpos := List.length_pos_iff.mpr hne
    refine mem_words ?_ ?_ fun x hx => ?_
    · rw [List.length_append, List.length_take]; lia
    · rw [List.length_append, List.length_take]; lia
    · rcases List.mem_append.mp hx with h | h
      · exact hslt x (hs_mem _ _ x (List.mem_of_mem_take h))
      · exact l3 x h
  generalize hcse : (hs ss j).take 2 ++ ex3 = cs at *
  refine ⟨by rw [List.length_take]; lia, ?_⟩
  simp only [b232,b233,b234,ay,di,dk,dl,ad,az,b0,ba,bb,ae,bc,bd,bg,bh,bj,bk,af,bl,ag,bn,bp,br,bs,bt,ah,ai,bv,aj,bw,ab,ak,bx,bz,al,c6,am,dn,dp,dq,dr,c7,du,dw,dx,dy,dz,ao,ap,c8,c9,ce,aq,au,aa,cf,cj,ck,cm,co,cq,cu,av,cw,cx,cy,cz,aw,d8,d9,a9,a8,e9,ee,ew,f0,f8,f9,fb,fe,ff,fg,fh,fi,fj,fk,fo,fq,fs,ft,fu,fw,fx,da,fy,db,g0,ge,gf,gg,gh,gi,gj,gk,gl,gm,gn,gp,gq,gs,gt,gu,gv,gw,gx,gy,gz,i0,i4,i5,i6,i8,i9,ia,dc,ax,ie,ig,ii,de,dg,ij,ik,il,im,ip,iq,ir,iu,iv,iw,iy,j0,j3,j4,j5,j6,dh,j7,j8,j9,ja,jb,jd,je,jf,jg,jh,ji,jj,jk,jl,jm,jn,jo,jp,jq,jr,jt,ju,jv,jw,jx,jy,jz,k0,k7,k8,k9,kg]
  refine ⟨by simp, fun a ha => ?_⟩
  exact law_235 S (p := ⟨sc, sc.sum, w, ss, cs, a⟩) ⟨hw, hsl, hslt, hcs⟩ fun _ => rfl
end Mine
set_option maxRecDepth 100000
set_option maxHeartbeats 8000000
namespace Mine
abbrev FnObs : Type := FuncBody × (List (Str × Addr) × Addr × Addr) × Value × Str × (Bool × Bool) × (Arguments × Value × Value)
def codeRecB (h : Heap) (cd : Value) (q : Str) : Bool := match cd with
  | .ref c => (match h.get? c with
    | some o => (match o.data with
      | .fields vs => (match (vs[1]? : Option Value) with
        | some (.str q' _) => q' == q
        | _ => false)
      | _ => false)
    | none => false)
  | _ => false
theorem codeRecB_of {h : Heap} {cd : Value} {q : Str} (e : codeRecB h cd q = true) : h.CodeRec cd q := by
  unfold codeRecB at e
  split at e
  · rename_i c
    split at e
    · rename_i o ho
      split at e
      · rename_i vs hd
        split at e
        · rename_i q' t hv
          exact ⟨c, o, vs, t, rfl, ho, hd, by rw [hv, beq_iff_eq.mp e]⟩
        · cases e
      · cases e
    · cases e
  · cases e
noncomputable def viewFn (C : Ctx) (h : Heap) (a : Addr) : Option FnObs := match h.get? a with
  | some o => (match o.data with
    | .func fd => some (fd.body, (fd.closure, fd.globals, fd.builtins), fd.code, fd.qualname ++ (".<locals>." : Str), (ctxOk C fd.scope, codeRecB h fd.code fd.qualname), (fd.params, fd.defaults, fd.kwdefaults))
    | _ => none)
  | none => none
structure FnT where
  a : Addr
  C : Ctx
  body : MSs
  ar : Arguments
  dv : Value
  kv : Value
  c : Addr
noncomputable def FnT.val (t : FnT) : Option FnObs := some (.stmts (denSs t.C t.body), ([], mainGlobals, builtinsNs), .ref t.c, t.C.qual, (true, true), (t.ar, t.dv, t.kv))
structure FnF (h : Heap) (t : FnT) (o : Obj) (fd : FuncData) : Prop where
  get : h.get? t.a = some o
  data : o.data = .func fd
  body : fd.body = .stmts (denSs t.C t.body)
  env : (fd.closure, fd.globals, fd.builtins) = (([] : List (Str × Addr)), mainGlobals, builtinsNs)
  code : fd.code = .ref t.c
  qual : fd.qualname ++ (".<locals>." : Str) = t.C.qual
  ctx : ctxOk t.C fd.scope = true
  crec : h.CodeRec fd.code fd.qualname
  par : (fd.params, fd.defaults, fd.kwdefaults) = (t.ar, t.dv, t.kv)
theorem fnF_of {h : Heap} {t : FnT} (e : viewFn t.C h t.a = t.val) : ∃ o fd, FnF h t o fd := by
  unfold viewFn FnT.val at e
  split at e
  · rename_i o ho
    split at e
    · rename_i fd hd
      have e1 := Option.some.inj e
      exact ⟨o, fd, ho, hd, congrArg (·.1) e1, congrArg (·.2.1) e1, congrArg (·.2.2.1) e1, congrArg (·.2.2.2.1) e1, congrArg (·.2.2.2.2.1.1) e1, codeRecB_of (congrArg (·.2.2.2.2.1.2) e1), congrArg (·.2.2.2.2.2) e1⟩
    · cases e
  · cases e
noncomputable def nsV (h : Heap) (x : Str) : Option Value := match h.get? mainGlobals with
  | some o => (match o.data with
    | .dict es _ => nsFind es x
    | _ => none)
  | none => none
theorem nsV_of {h : Heap} {mg : Str → Option Value} (N : h.Ns mainGlobals mg) (x : Str) : nsV h x = mg x := by
  obtain ⟨o, es, ep, ho, hd, _, hf⟩ := N
  unfold nsV
  rw [ho]
  simp only [hd]
  exact hf x
def viewSeq (h : Heap) (a : Addr) : Option (Array Value) := match h.get? a with
  | some o => (match o.data with | .seq xs _ => some xs | _ => none)
  | none => none
theorem viewSeq_of {h : Heap} {a : Addr} {xs : Array Value} (e : viewSeq h a = some xs) : ∃ o n, h.get? a = some o ∧ o.data = .seq xs n := by
  unfold viewSeq at e
  split at e
  · rename_i o ho
    split at e
    · rename_i xs' n hd
      exact ⟨o, n, ho, by rw [hd, Option.some.inj e]⟩
    · cases e
  · cases e
def viewKwd (h : Heap) (a : Addr) : Option (Value × Value) := match h.get? a with
  | some o => (match o.data with
    | .dict es _ => (match es.toList with | [e] => some (e.key, e.val) | _ => none)
    | _ => none)
  | none => none
theorem viewKwd_of {h : Heap} {a : Addr} {k v : Value} (e : viewKwd h a = some (k, v)) : ∃ o hs n, h.get? a = some o ∧ o.data = .dict #[⟨hs, k, v⟩] n := by
  unfold viewKwd at e
  split at e
  · rename_i o ho
    split at e
    · rename_i es n hd
      split at e
      · rename_i x hx
        obtain ⟨hs, k', v'⟩ := x
        have e1 := Option.some.inj e
        simp only [Prod.mk.injEq] at e1
        refine ⟨o, hs, n, ho, ?_⟩
        rw [hd, ← e1.1, ← e1.2, ← Array.toArray_toList (xs := es), hx]
      · cases e
    · cases e
  · cases e
def refIs (P : Addr) : Value → Bool
  | .ref a => a == P
  | _ => false
def isStrV : Value → Bool
  | .str _ _ => true
  | _ => false
def isIntV : Value → Bool
  | .int _ _ => true
  | _ => false
def isBoolV : Value → Bool
  | .bool _ => true
  | _ => false
def optIs (P : Addr) : Option Value → Bool
  | some v => refIs P v
  | none => false
theorem refIs_of {P : Addr} {v : Value} (e : refIs P v = true) : v = .ref P := by
  cases v <;> first | (rw [eq_of_beq (show (_ == P) = true from e)]; done) | cases e
theorem isStrV_of {v : Value} (e : isStrV v = true) : ∃ f t, v = .str f t := by
  cases v <;> first | exact ⟨_, _, rfl⟩ | cases e
theorem isIntV_of {v : Value} (e : isIntV v = true) : ∃ f t, v = .int f t := by
  cases v <;> first | exact ⟨_, _, rfl⟩ | cases e
theorem isBoolV_of {v : Value} (e : isBoolV v = true) : ∃ b, v = .bool b := by
  cases v <;> first | exact ⟨_, rfl⟩ | cases e
theorem optIs_of {P : Addr} {v : Option Value} (e : optIs P v = true) : v = some (.ref P) := by
  cases v with
  | none => cases e
  | some v => rw [refIs_of e]
def clsIs : Value → Bool
  | .type T => T == "code"
  | _ => false
theorem clsIs_of {v : Value} (e : clsIs v = true) : v = .type "code" := by
  cases v <;> first | (rw [eq_of_beq (show (_ == "code") = true from e)]; done) | cases e
def codeHdB (h : Heap) (c P : Addr) : Bool := match h.get? c with
  | some o => (match o.data with
    | .fields vs => clsIs o.cls && optIs P vs[11]? && refIs P (vs.getD 11 .none) && isStrV (vs.getD 18 .none) && isIntV (vs.getD 7 .none) && isBoolV (vs.getD 9 .none) && isIntV (vs.getD 10 .none) && c != P
    | _ => false)
  | none => false
theorem codeHdB_of {h : Heap} {c P : Addr} (e : codeHdB h c P = true) : CodeHd h c P := by
  unfold codeHdB at e
  split at e
  · rename_i o ho
    split at e
    · rename_i vs hd
      simp only [Bool.and_eq_true, bne_iff_ne] at e
      obtain ⟨⟨⟨⟨⟨⟨⟨e1, e2⟩, e3⟩, e4⟩, e5⟩, e6⟩, e7⟩, e8⟩ := e
      obtain ⟨f, tf, e4⟩ := isStrV_of e4
      obtain ⟨i7, t7, e5⟩ := isIntV_of e5
      obtain ⟨b9, e6⟩ := isBoolV_of e6
      obtain ⟨i10, t10, e7⟩ := isIntV_of e7
      exact ⟨o, vs, f, tf, i7, t7, b9, i10, t10, ho, clsIs_of e1, hd, optIs_of e2, refIs_of e3, e4, e5, e6, e7, e8⟩
    · cases e
  · cases e
noncomputable def fnTab : List FnT := [⟨23, ll, oq, ar_bisect_right, .ref 15, .ref 16, 22⟩,
  ⟨32, kl, nv, ar_bisect_left, .ref 24, .ref 25, 31⟩,
  ⟨39, kj, ot, ar__div2n1n, .none, .none, 38⟩,
  ⟨46, lp, ox, ar__div3n2n, .none, .none, 45⟩,
  ⟨53, lz, oz, ar__int2digits, .none, .none, 52⟩,
  ⟨60, mh, p7, ar__digits2int, .none, .none, 59⟩,
  ⟨67, lr, p9, ar__divmod_pos, .none, .none, 66⟩,
  ⟨74, mj, nw, ar_int_divmod, .none, .none, 73⟩,
  ⟨81, lu, ou, ar__ellipsis_match, .none, .none, 80⟩,
  ⟨88, mz, pd, ar__substitution_cost, .none, .none, 87⟩,
  ⟨95, ki, pf, ar__levenshtein_distance, .none, .none, 94⟩,
  ⟨100, ml, ph, ar__law_chains, .none, .none, 99⟩,
  ⟨105, mw, pq, ar__law_held, .none, .none, 104⟩,
  ⟨110, mx, pr, ar__law_steps, .none, .none, 109⟩,
  ⟨115, lx, pv, ar__law_price, .none, .none, 114⟩,
  ⟨122, mq, px, ar__law_ask, .none, .none, 121⟩,
  ⟨127, jc, qc, ar_law, .none, .none, 126⟩]
noncomputable def nameTab : List (Str × Value) := [("bisect_right", .ref 23), ("bisect_left", .ref 32), ("_div2n1n", .ref 39), ("_div3n2n", .ref 46), ("_int2digits", .ref 53), ("_digits2int", .ref 60), ("_divmod_pos", .ref 67), ("int_divmod", .ref 74), ("_ellipsis_match", .ref 81), ("_substitution_cost", .ref 88), ("_levenshtein_distance", .ref 95), ("_law_chains", .ref 100), ("_law_held", .ref 105), ("_law_steps", .ref 110), ("_law_price", .ref 115), ("_law_ask", .ref 122), ("law", .ref 127), ("_DIV_LIMIT", .int 4000 219), ("ELLIPSIS_MARKER", .str "..." 301), ("_MAX_STRING_SIZE", .int 40 317), ("_MOVE_COST", .int 2 319), ("_CASE_COST", .int 1 321)]
abbrev theTabs : List (Addr × Addr) := [(99, 97), (59, 55), (52, 48), (126, 124)]
abbrev ObsT : Type := List (Option FnObs) × List (Option Value) × List (Option (Array Value)) × List (Option (Value × Value)) × List Bool × List (Option Obj)
noncomputable def obsOf (h : Heap) : ObsT := (fnTab.map fun t => viewFn t.C h t.a, nameTab.map fun p => nsV h p.1, [15, 24].map (viewSeq h), [16, 25].map (viewKwd h), theTabs.map fun q => codeHdB h q.1 q.2, theTabs.map fun q => h.get? q.2)
noncomputable def obsVal : ObsT := (fnTab.map FnT.val, nameTab.map fun p => some p.2, [some #[.int 0 189, .none], some #[.int 0 203, .none]], [some (.str "key" 190, .none), some (.str "key" 204, .none)], theTabs.map fun _ => true, theTabs.map fun _ => some (tabObj #[]))
structure Facts (h : Heap) : Prop where
  fns : ∀ t ∈ fnTab, ∃ o fd, FnF h t o fd
  ns : ∃ o es ep, h.get? mainGlobals = some o ∧ o.data = .dict es ep ∧ ∀ p ∈ nameTab, nsFind es p.1 = some p.2
  s15 : ∃ o n, h.get? 15 = some o ∧ o.data = .seq #[.int 0 189, .none] n
  s24 : ∃ o n, h.get? 24 = some o ∧ o.data = .seq #[.int 0 203, .none] n
  k16 : ∃ o hs n, h.get? 16 = some o ∧ o.data = .dict #[⟨hs, .str "key" 190, .none⟩] n
  k25 : ∃ o hs n, h.get? 25 = some o ∧ o.data = .dict #[⟨hs, .str "key" 204, .none⟩] n
def TabsF (h : Heap) : Prop := ∀ q ∈ theTabs, CodeHd h q.1 q.2 ∧ h.get? q.2 = some (tabObj #[])
theorem facts_of {h : Heap} (e : obsOf h = obsVal) : Facts h ∧ TabsF h := by
  have e1' : (fnTab.map fun t => viewFn t.C h t.a) = fnTab.map FnT.val := congrArg (·.1) e
  have e2' : (nameTab.map fun p => nsV h p.1) = nameTab.map fun p => some p.2 := congrArg (·.2.1) e
  have e5' : (theTabs.map fun q => codeHdB h q.1 q.2) = theTabs.map fun _ => true := congrArg (·.2.2.2.2.1) e
  have e6' : (theTabs.map fun q => h.get? q.2) = theTabs.map fun _ => some (tabObj #[]) := congrArg (·.2.2.2.2.2) e
  have e1 := List.map_inj_left.mp e1'
  have e2 := List.map_inj_left.mp e2'
  have e3 : [viewSeq h 15, viewSeq h 24] = _ := congrArg (·.2.2.1) e
  have e4 : [viewKwd h 16, viewKwd h 25] = _ := congrArg (·.2.2.2.1) e
  have e5 := List.map_inj_left.mp e5'
  have e6 := List.map_inj_left.mp e6'
  have c3 := List.cons.inj e3
  have c4 := List.cons.inj e4
  refine ⟨⟨fun t ht => fnF_of (e1 t ht), ?_, viewSeq_of c3.1, viewSeq_of (List.cons.inj c3.2).1, viewKwd_of c4.1, viewKwd_of (List.cons.inj c4.2).1⟩, fun q hq => ⟨codeHdB_of (e5 q hq), e6 q hq⟩⟩
  have f : nsV h "law" = some (.ref 127) := e2 ("law", .ref 127) (by unfold nameTab; simp)
  unfold nsV at f e2
  split at f
  · rename_i o ho
    split at f
    · rename_i es ep hd
      refine ⟨o, es, ep, ho, hd, fun p hp => ?_⟩
      have := e2 p hp
      rw [ho] at this
      simp only [hd] at this
      exact this
    · cases f
  · cases f
theorem Facts.map {h h' : Heap} (F : Facts h) (k : ∀ a o, o ≠ tabObj #[] → h.get? a = some o → h'.get? a = some o) (kc : ∀ c q, h.CodeRec c q → h'.CodeRec c q) : Facts h' where
  fns := fun t ht => by
    obtain ⟨o, fd, f⟩ := F.fns t ht
    exact ⟨o, fd, k _ _ (fun e => by have := f.data; rw [e] at this; cases this) f.get, f.data, f.body, f.env, f.code, f.qual, f.ctx, kc _ _ f.crec, f.par⟩
  ns := by
    obtain ⟨o, es, ep, a, b, c⟩ := F.ns
    exact ⟨o, es, ep, k _ _ (fun e => by rw [e] at b; cases b) a, b, c⟩
  s15 := let ⟨o, n, a, b⟩ := F.s15; ⟨o, n, k _ _ (fun e => by rw [e] at b; cases b) a, b⟩
  s24 := let ⟨o, n, a, b⟩ := F.s24; ⟨o, n, k _ _ (fun e => by rw [e] at b; cases b) a, b⟩
  k16 := let ⟨o, x, n, a, b⟩ := F.k16; ⟨o, x, n, k _ _ (fun e => by rw [e] at b; cases b) a, b⟩
  k25 := let ⟨o, x, n, a, b⟩ := F.k25; ⟨o, x, n, k _ _ (fun e => by rw [e] at b; cases b) a, b⟩
theorem Facts.keeps {h h' : Heap} (F : Facts h) (k : ∀ a o, h.get? a = some o → h'.get? a = some o) : Facts h' := F.map (fun a o _ e => k a o e) fun _ _ x => x.keeps k
noncomputable abbrev theRow : OpenRow := PySem.Challenge.rw_tx0027_01.row
noncomputable def Q0 : Program := view PySem.Challenge.pw_tx0027_01 [26]
def loose0 : List Str := ["bisect_right", "bisect_left", "_div2n1n", "_div3n2n", "_int2digits", "_digits2int", "_divmod_pos", "int_divmod", "_ellipsis_match", "_substitution_cost", "_levenshtein_distance", "_law_chains", "_law_held", "_law_steps", "_law_price", "_law_ask", "_DIV_LIMIT", "ELLIPSIS_MARKER", "_MAX_STRING_SIZE", "_MOVE_COST", "_CASE_COST"]
noncomputable def d0 : DefRec := match defOf Q0 "law" with | some p => p.1 | none => ⟨"", default, [], default, ⟨0, 0, 0, 0⟩⟩
theorem left0 : LeftO theRow.prog Q0 loose0 (fun s => recOk theRow.records s) (fun s => obsOf s.heap) (fun _ => obsVal) 1426 := fun w => by kernel_rfl
theorem hdef0 : defOf Q0 theRow.name = some (d0, []) := by kernel_rfl
theorem hp0 : theRow.prog.theDef theRow.name = some (d0.params, d0.body, d0.scope) := by kernel_rfl
theorem hk0 : kwWritten? d0.params.kwonlyargs d0.params.kw_defaults = some [] := by kernel_rfl
theorem ok0 : (chainsOk Q0 && opensWell theRow.prog && (frees theRow.toRowW && theRow.within.isEmpty)) = true := by kernel_rfl
theorem dn0 : d0.name = "law" := by kernel_rfl
theorem said0 : OpenLaw.wellSaid PySem.Challenge.rw_tx0027_01 = true := by
  unfold OpenLaw.wellSaid OpenRow.wellSaid OpenRow.partSaid looksOpen
  repeat' (with_reducible refine look_both ?_ ?_)
  all_goals decide +kernel
end Mine
namespace Mine
noncomputable abbrev theG (prog : Program) (w : World) (B : Heap) (mg mb : Str → Option Value) : Stat :=
  { prog := prog, w := w, B := B, mg := mg, mb := mb, tabs := [(52, 48, Str.ofString "_int2digits.<locals>.inner"), (59, 55, Str.ofString "_digits2int.<locals>.inner"), (99, 97, "_law_chains.<locals>.<lambda>"), (126, 124, Str.ofString "law.<locals>.<lambda>")], clo := theClos }
theorem fnS_of {G : Stat} {nm : Str} {t : FnT} (F : Facts G.B) (ht : t ∈ fnTab) (hm : G.mg nm = some (.ref t.a)) (hc : (match t.C.code with | some c => t.c == c | none => true) = true) (h7 : (t.C.slots.all fun p => p.2 != .fr) = true) (h8 : okSs t.C t.body = true) : FnS G nm t.a t.C t.body t.ar t.dv t.kv := by
  obtain ⟨o, fd, f⟩ := F.fns t ht
  have e := f.env
  have p := f.par
  simp only [Prod.mk.injEq] at e p
  refine ⟨⟨hm, ?_⟩, ⟨⟨o, fd, f.get, f.data, f.body, e.1, e.2.1, e.2.2, fun c q => ?_, f.qual.symm, f.crec, f.ctx⟩, h7, h8⟩, fun o' fd' q1 q2 => ?_⟩
  · obtain ⟨oc, od, dt, sl⟩ := o
    have d : dt = .func fd := f.data
    subst d
    exact ⟨oc, od, fd, sl, f.get⟩
  · rw [q] at hc
    rw [f.code, beq_iff_eq.mp hc]
  · have g := f.get
    rw [q1] at g; cases g
    have d := f.data
    rw [q2] at d; cases d
    exact p
theorem bi_of {mg mb : Str → Option Value} {h : Heap} {p : Program} {loose : List Str} {mean : ExcName → Option Value} (T : Top p loose mean mg mb h) {x : Str} {v : Value} (h1 : x ∉ startupNames) (h2 : x ∉ loose) (h3 : x ∉ (recsOf p).map (·.name)) (h4 : x ∉ (litsOf p).map (·.1)) (h5 : x ∉ (clssOf p loose).map (·.name))
    (hn : x ≠ "__name__") (hv : bootBuiltins x = some v) : mg x = none ∧ mb x = some v :=
  ⟨T.free x h1 h2 h3 h4 h5, (T.builtins x hn).trans hv⟩
structure BiF (mg mb : Str → Option Value) : Prop where
  len : mg "len" = none ∧ mb "len" = some (.builtin "len")
  divmod : mg "divmod" = none ∧ mb "divmod" = some (.builtin "divmod")
  min : mg "min" = none ∧ mb "min" = some (.builtin "min")
  sum : mg "sum" = none ∧ mb "sum" = some (.builtin "sum")
  list : mg "list" = none ∧ mb "list" = some (.type "list")
  range : mg "range" = none ∧ mb "range" = some (.type "range")
  reversed : mg "reversed" = none ∧ mb "reversed" = some (.type "reversed")
  sorted : mg "sorted" = none ∧ mb "sorted" = some (.builtin "sorted")
theorem biF_of {mg mb : Str → Option Value} {h : Heap} {mean : ExcName → Option Value} (T : Top Q0 (looseW Q0 loose0) mean mg mb h) : BiF mg mb where
  len := bi_of T (by decide +kernel) (by decide +kernel) (by decide +kernel) (by decide +kernel) (by decide +kernel) (by decide +kernel) (by kernel_rfl)
  divmod := bi_of T (by decide +kernel) (by decide +kernel) (by decide +kernel) (by decide +kernel) (by decide +kernel) (by decide +kernel) (by kernel_rfl)
  min := bi_of T (by decide +kernel) (by decide +kernel) (by decide +kernel) (by decide +kernel) (by decide +kernel) (by decide +kernel) (by kernel_rfl)
  sum := bi_of T (by decide +kernel) (by decide +kernel) (by decide +kernel) (by decide +kernel) (by decide +kernel) (by decide +kernel) (by kernel_rfl)
  list := bi_of T (by decide +kernel) (by decide +kernel) (by decide +kernel) (by decide +kernel) (by decide +kernel) (by decide +kernel) (by kernel_rfl)
  range := bi_of T (by decide +kernel) (by decide +kernel) (by decide +kernel) (by decide +kernel) (by decide +kernel) (by decide +kernel) (by kernel_rfl)
  reversed := bi_of T (by decide +kernel) (by decide +kernel) (by decide +kernel) (by decide +kernel) (by decide +kernel) (by decide +kernel) (by kernel_rfl)
  sorted := bi_of T (by decide +kernel) (by decide +kernel) (by decide +kernel) (by decide +kernel) (by decide +kernel) (by decide +kernel) (by kernel_rfl)
theorem name_of {mg : Str → Option Value} {B : Heap} (F : Facts B) (N : B.Ns mainGlobals mg) : ∀ p ∈ nameTab, mg p.1 = some p.2 := fun p hp => by
  obtain ⟨o, es, ep, ho, hd, hf⟩ := F.ns
  obtain ⟨o', es', ep', ho', hd', _, hf'⟩ := N
  rw [ho] at ho'; cases ho'
  rw [hd] at hd'; cases hd'
  rw [← hf' p.1, hf p hp]
theorem setOk_real {prog : Program} {w : World} {B : Heap} {mg mb : Str → Option Value} {p : Program} {loose : List Str} {mean : ExcName → Option Value} (F : Facts B) (T : Top p loose mean mg mb B) (bf : BiF mg mb) (ca : CodeAll theTabs B) : SetOk (theG prog w B mg mb) := by
  have nm := name_of F T.g
  have mt : ∀ (i : Nat) (q : FnT), fnTab[i]? = some q → q ∈ fnTab := fun i q e => List.mem_of_getElem? e
  have mn : ∀ (i : Nat) (q : Str × Value), nameTab[i]? = some q → mg q.1 = some q.2 := fun i q e => nm q (List.mem_of_getElem? e)
  exact {
    st := {
      ns := T.g
      nb := T.b
      nolimit := T.nolimit
      bi := fun b => by
        cases b
        · exact bf.len
        · exact bf.divmod
        · exact bf.min
        · exact bf.sum
      tlist := bf.list
      trange := bf.range
      trev := bf.reversed
      tsort := bf.sorted
      bat := fun Pl hPl h hk => by
        obtain ⟨bm, ob, a1, a2, a3, a4, a5, a6⟩ := T.bmain
        refine ⟨bm, ob, a1, a2, fun e => ?_, fun e => ?_, hk _ _ a3, a4, a5, a6⟩
        · obtain ⟨o, es, ep, ho, hd, _⟩ := T.g
          rw [e, ho] at a3; cases a3
          rw [a6] at hd; cases hd
        · rw [e] at a3
          have : B.get? Pl = none := hPl
          rw [this] at a3; cases a3
      hd := fun t ht => by
        obtain ⟨c1, c2, c3, c4, _⟩ := ca
        simp only [List.mem_cons, List.not_mem_nil, or_false] at ht
        rcases ht with rfl | rfl | rfl | rfl
        · exact c3
        · exact c2
        · exact c1
        · exact c4
      tnd := show [48, 55, 97, 124].Nodup from by decide }
    clo := rfl
    tabs := rfl
    div_limit := ⟨219, mn 17 _ rfl⟩
    ellipsis := ⟨301, mn 18 _ rfl⟩
    max_size := ⟨317, mn 19 _ rfl⟩
    move := ⟨319, mn 20 _ rfl⟩
    case := ⟨321, mn 21 _ rfl⟩
    dfl_r := let ⟨o, n, a, b⟩ := F.s15; ⟨o, 189, n, a, b⟩
    kwd_r := let ⟨o, x, n, a, b⟩ := F.k16; ⟨o, x, 190, n, a, b⟩
    dfl_l := let ⟨o, n, a, b⟩ := F.s24; ⟨o, 203, n, a, b⟩
    kwd_l := let ⟨o, x, n, a, b⟩ := F.k25; ⟨o, x, 204, n, a, b⟩
    f_bisect_right := fnS_of (G := theG prog w B mg mb) F (mt 0 _ rfl) (mn 0 _ rfl) rfl (by kernel_rfl) okb_bisect_right
    f_bisect_left := fnS_of (G := theG prog w B mg mb) F (mt 1 _ rfl) (mn 1 _ rfl) rfl (by kernel_rfl) okb_bisect_left
    f__div2n1n := fnS_of (G := theG prog w B mg mb) F (mt 2 _ rfl) (mn 2 _ rfl) rfl (by kernel_rfl) okb__div2n1n
    f__div3n2n := fnS_of (G := theG prog w B mg mb) F (mt 3 _ rfl) (mn 3 _ rfl) rfl (by kernel_rfl) okb__div3n2n
    f__int2digits := fnS_of (G := theG prog w B mg mb) F (mt 4 _ rfl) (mn 4 _ rfl) rfl (by kernel_rfl) okb__int2digits
    f__digits2int := fnS_of (G := theG prog w B mg mb) F (mt 5 _ rfl) (mn 5 _ rfl) rfl (by kernel_rfl) okb__digits2int
    f__divmod_pos := fnS_of (G := theG prog w B mg mb) F (mt 6 _ rfl) (mn 6 _ rfl) rfl (by kernel_rfl) okb__divmod_pos
    f_int_divmod := fnS_of (G := theG prog w B mg mb) F (mt 7 _ rfl) (mn 7 _ rfl) rfl (by kernel_rfl) okb_int_divmod
    f__ellipsis_match := fnS_of (G := theG prog w B mg mb) F (mt 8 _ rfl) (mn 8 _ rfl) rfl (by kernel_rfl) okb__ellipsis_match
    f__substitution_cost := fnS_of (G := theG prog w B mg mb) F (mt 9 _ rfl) (mn 9 _ rfl) rfl (by kernel_rfl) okb__substitution_cost
    f__levenshtein_distance := fnS_of (G := theG prog w B mg mb) F (mt 10 _ rfl) (mn 10 _ rfl) rfl (by kernel_rfl) okb__levenshtein_distance
    f__law_chains := fnS_of (G := theG prog w B mg mb) F (mt 11 _ rfl) (mn 11 _ rfl) rfl (by kernel_rfl) okb__law_chains
    f__law_held := fnS_of (G := theG prog w B mg mb) F (mt 12 _ rfl) (mn 12 _ rfl) rfl (by kernel_rfl) okb__law_held
    f__law_steps := fnS_of (G := theG prog w B mg mb) F (mt 13 _ rfl) (mn 13 _ rfl) rfl (by kernel_rfl) okb__law_steps
    f__law_price := fnS_of (G := theG prog w B mg mb) F (mt 14 _ rfl) (mn 14 _ rfl) rfl (by kernel_rfl) okb__law_price
    f__law_ask := fnS_of (G := theG prog w B mg mb) F (mt 15 _ rfl) (mn 15 _ rfl) rfl (by kernel_rfl) okb__law_ask
    f_law := fnS_of (G := theG prog w B mg mb) F (mt 16 _ rfl) (mn 16 _ rfl) rfl (by kernel_rfl) okb_law }
theorem inv_real {prog : Program} {w : World} {mg mb : Str → Option Value} {h₁ : Heap} (hT : TabsAt theTabs h₁) : Inv (theG prog w (ghostOf h₁ theTabs) mg mb) [48, 55, 97, 124] [] h₁ where
  keep := fun a o e => of_hideAll _ e
  base := fun a o e m => by
    have m2 : a ∈ theTabs.map (·.2) := by
      have m3 : a ∈ [48, 55, 97, 124] := m
      simp only [List.mem_cons, List.not_mem_nil, or_false] at m3
      rcases m3 with rfl | rfl | rfl | rfl <;> decide
    have h0 : (hideAll h₁ (theTabs.map (·.2))).get? a = none := hideAll_none _ m2
    have e2 : (hideAll h₁ (theTabs.map (·.2))).get? a = some o := e
    rw [h0] at e2; cases e2
  tabs := fun t ht => by
    have tab : ∀ c P s, (c, P) ∈ theTabs → TabOk (keys [] ++ [48, 55, 97, 124]) h₁ (c, P, s) := fun c P s hm => by
      have := (hT (c, P) hm).2
      exact ⟨#[], this, by simp [TriplesOk], fun pos c' hc => by cases hc⟩
    simp only [List.mem_cons, List.not_mem_nil, or_false] at ht
    rcases ht with rfl | rfl | rfl | rfl <;> exact tab _ _ _ (by decide)
  tp := fun a m => m
  tpk := fun a m => (by cases m)
  nd := .nil
  cells := fun a xs m => (by cases m)
  lt := fun a m => by
    have : ∃ c, (c, a) ∈ theTabs := by
      simp only [List.mem_cons, List.not_mem_nil, or_false] at m
      rcases m with rfl | rfl | rfl | rfl
      · exact ⟨52, by decide⟩
      · exact ⟨59, by decide⟩
      · exact ⟨99, by decide⟩
      · exact ⟨126, by decide⟩
    obtain ⟨c, hc⟩ := this
    exact ⟨_, (hT (c, a) hc).2⟩
theorem vrs_well {G : Stat} {X : List Addr} {P : Params} {h : Heap} : ∀ (ns : List Int) (vs : List Value), WellAll P h vs (ofPys (ns.map .int)) → VRs G X h (ns.map .int) vs
  | [], vs, w => by
    rw [List.map_nil, ofPys] at w
    cases w
    show VRs G X h [] []
    unfold VRs; rfl
  | n :: ns, vs, w => by
    rw [List.map_cons, ofPys, ofPy] at w
    cases w with
    | cons a b =>
      cases a with
      | int i t =>
        show VRs G X h (.int n :: ns.map .int) _
        unfold VRs
        exact ⟨_, _, rfl, ⟨t, rfl⟩, vrs_well ns _ b⟩
theorem vr_well {G : Stat} {X : List Addr} {P : Params} {h : Heap} {ns : List Int} {a : Addr} (w : Well P h (.ref a) (ofPy (.list (ns.map .int)))) (hX : ∀ b ∈ X, ∃ ps, h.get? b = some (tabObj ps)) : VR G X h (.list (ns.map .int)) (.ref a) := by
  rw [ofPy] at w
  cases w with
  | list g wa =>
    unfold VR
    rename_i vs
    refine ⟨a, _, vs.toArray, rfl, fun m => ?_, g, vrs_well ns _ (by simpa using wa)⟩
    obtain ⟨ps, e⟩ := hX a m
    rw [g] at e; cases e
theorem walk0 : WalkO Q0 loose0 (fun _ _ => True) (fun _ h => Facts h ∧ TabsF h) theRow.toRowW d0 [] fun f vs => PySem.call f vs := by
  intro w s₀ s₁ mg mb G Y fa o pm cd doc dV kV ho hd hcd hD hmg hg args vals as hpre hlay hrd hwl hlo
  obtain ⟨FF, hT9⟩ := Y
  refine Ground.open G ?_
  intro T B D TE TW
  have hfa : fa = 127 := by
    have e2 := (name_of FF T.g ("law", .ref 127) (List.mem_of_getElem? (i := 16) rfl)).symm.trans (dn0 ▸ hmg)
    injection e2 with e3
    injection e3 with e4
    exact e4.symm
  subst hfa
  have F2 : Facts (ghostOf s₁.heap theTabs) := FF.map (fun a o hn e => ghost_get hT9 e hn) fun c q x => by
    obtain ⟨c', o', vs, t, e1, e2, e3, e4⟩ := x
    exact ⟨c', o', vs, t, e1, ghost_get hT9 e2 (fun q => by rw [q] at e3; injection e3 with e5; rw [← e5] at e4; cases e4), e3, e4⟩
  have S := setOk_real (prog := PySem.Challenge.rw_tx0027_01.row.prog) (w := w) F2 (ghost_top hT9 T) (biF_of T) (ghost_code hT9)
  have II := inv_real (prog := PySem.Challenge.rw_tx0027_01.row.prog) (w := w) (mg := mg) (mb := mb) hT9
  clear hmg ho hd hcd hD D B TE TW F2 FF T G
  wrow_args hpre hlay hrd hwl hlo
  rename_i ns hs1 hlay0 hL1 hr1 hl2 l4 l3 a vs l0 hL ra hw r0 hI hr hc1 hc2
  refine enter_call ?_
  refine kn_post hT9 (fun _ _ => rfl) ?_
  have hcall := c_law S (sc := ns) (by omega)
  have hX : ∀ b ∈ ([48, 55, 97, 124] : List Addr), ∃ ps, s₁.heap.get? b = some (tabObj ps) := fun b hb => by
    simp only [List.mem_cons, List.not_mem_nil, or_false] at hb
    rcases hb with rfl | rfl | rfl | rfl
    · exact ⟨_, (hT9 (52, 48) (by decide)).2⟩
    · exact ⟨_, (hT9 (59, 55) (by decide)).2⟩
    · exact ⟨_, (hT9 (99, 97) (by decide)).2⟩
    · exact ⟨_, (hT9 (126, 124) (by decide)).2⟩
  have hcode := hcall callerA s₁ [48, 55, 97, 124] (.ref 127) [.ref a] [] ⟨rfl, by decide, by decide⟩ II rfl ⟨_, _, rfl, vr_well hw hX, rfl⟩ rfl
  refine codeAny_mono hcode fun r s' h => ?_
  obtain ⟨v, rfl, m, H', rfl, TT, rv⟩ := h
  have hv : v = .bool true := rv
  subst hv
  have hgens : s'.gens = #[] := (Prod.mk.inj TT.gens).1.trans hg
  refine ⟨⟨.inl ⟨.bool true, .bool true, [], rfl, fun _ => rfl, .bool true, ?_, fun _ => ⟨.nil, nofun⟩⟩, fun b o e => TT.inv.keep b o e, TT.os, hgens⟩, ?_⟩
  · first | rfl | kernel_rfl
  · have tab : ∀ t ∈ (theG PySem.Challenge.rw_tx0027_01.row.prog w (ghostOf s₁.heap theTabs) mg mb).tabs, GrownAt t.2.1 s'.heap := fun t ht => by
      obtain ⟨ps, e, _⟩ := TT.inv.tabs t ht
      exact ⟨ps, e⟩
    exact ⟨tab _ (.tail _ (.tail _ (.head _))), tab _ (.tail _ (.head _)), tab _ (.head _), tab _ (.tail _ (.tail _ (.tail _ (.head _)))), trivial⟩
end Mine
theorem PySem.Challenge.cw_tx0027_01_holds : PySem.Challenge.rw_tx0027_01.Holds := by
  refine holds_law Mine.said0 fun said => ?_
  exact holds_open Mine.left0 (fun w s e => Mine.facts_of e) (fun w h h' y k => ⟨y.1.keeps k, fun q hq => ⟨(y.2 q hq).1.keeps k, k _ _ (y.2 q hq).2⟩⟩) (fun _ _ => trivial) (fun _ _ _ _ _ => trivial) Mine.hdef0 Mine.hp0 Mine.hk0 (fun s e => recFacts_of e) rfl
    said Mine.ok0 ⟨rfl, rfl, rfl, rfl, rfl, by decide +kernel⟩ ⟨[.list []], by decide +kernel, by decide +kernel⟩ Mine.walk0
