import PyProof.Rows.All
import Wide.All
import OpenK.AllK
import Wide.FinOn
import Lean
import PySem.Challenge.RW_jx0005_01
set_option Elab.async false
set_option maxRecDepth 100000
set_option maxHeartbeats 8000000
set_option linter.all false
set_option pp.deepTerms false
set_option pp.deepTerms.threshold 3
section
open PySem PySem.W PyProof.Rows
namespace Mine
def topRunT (tb : String → Option Builtin) (p : Program) (w : World) (n₀ : Nat) (ann : Option Value) : Nat → SharedT → Thread → Option SharedT
  | 0, _, _ => none
  | n + 1, s, t => match through t with
    | true => some s
    | false => match stepOk n₀ ann t with
      | false => none
      | true => match stepT (denote tb) p w s t with
        | some (s', t') => topRunT tb p w n₀ ann n s' t'
        | none => none
theorem topRun_of {tb : String → Option Builtin} {p : Program} {w : World} {n₀ : Nat} {ann : Option Value} : ∀ {n : Nat} {s r : SharedT} {t : Thread}, topRunT tb p w n₀ ann n s t = some r → topRun tb p w n₀ ann n s.abs t = some r.abs
  | 0, _, _, _, h => by cases h
  | n + 1, s, r, t, h => by
    unfold topRunT at h
    unfold topRun
    cases he : through t with
    | true => rw [he] at h; cases h; rfl
    | false =>
      rw [he] at h
      cases hk : stepOk n₀ ann t with
      | false => rw [hk] at h; cases h
      | true =>
        rw [hk] at h
        cases hs : stepT (denote tb) p w s t with
        | none => rw [hs] at h; cases h
        | some r' => obtain ⟨s₂, t₂⟩ := r'; rw [hs] at h; rw [stepT_spec hs]; exact topRun_of h
def btOf (l : List Obj) : BT := (l.foldl (fun (q : BT × Nat) o => (q.1.ins q.2 o, q.2 + 1)) (.nil, 0)).1
noncomputable def bootT (w : World) (os : OsState) : SharedT := ⟨btOf (boot_heap w.params).objs.toList, (boot_heap w.params).objs.size, (boot_heap w.params).life, Array.mk [], boot_drawn, boot_toks, os⟩
theorem bootT_abs (w : World) (os : OsState) : (bootT w os).abs = ⟨boot_heap w.params, Array.mk [], boot_drawn, boot_toks, os⟩ := by kernel_rfl
end Mine
namespace Mine
noncomputable def topRunQ (p : Program) (w : World) (n₀ : Nat) (ann : Option Value) : Nat → SharedT → Thread → Option SharedT
  | 0, _, _ => none
  | n + 1, s, t => match through t with
    | true => some s
    | false => match PySem.W.Fast.tw6613529449190102663 n₀ ann t with
      | false => none
      | true => match PySem.W.Fast.tw10156331382660048174 (PySem.W.Fast.tw11892475500146522536 PySem.W.Fast.tw14364793385576792824) p w s t with
        | some (s', t') => topRunQ p w n₀ ann n s' t'
        | none => none
theorem topRunQ_eq : ∀ (n : Nat) (p : Program) (w : World) (n₀ : Nat) (ann : Option Value) (s : SharedT) (t : Thread), topRunT treeTable p w n₀ ann n s t = topRunQ p w n₀ ann n s t
  | 0, _, _, _, _, _, _ => rfl
  | n + 1, p, w, n₀, ann, s, t => by
    unfold topRunT topRunQ
    rw [← PySem.W.Fast.te10156331382660048174, ← PySem.W.Fast.te11892475500146522536, ← PySem.W.Fast.te14364793385576792824, ← PySem.W.Fast.te6613529449190102663]
    cases through t with
    | true => rfl
    | false =>
      cases stepOk n₀ ann t with
      | false => rfl
      | true =>
        dsimp only
        cases stepT (denote treeTable) p w s t with
        | none => rfl
        | some r => exact topRunQ_eq n _ _ _ _ _ _
def looksL (p : Program) (h₀ : Heap) (s : Shared) : Bool := staticsOk (importedModules p.main.body) h₀ s.heap && namesBound p s.heap && gensDone s && laidKept h₀ s.heap
theorem left_quick {p q : Program} {loose : List Str} {Xt : Shared → Bool} {α : Type} {Yf : Shared → α} {Ya : World → α} {N : Nat} {g0 : Bool}
    (e : opening p = plainProg p.main.scope.names) (hN : Nat.ble 600 N = true) (f : ∀ s, fenceModules? p s = some s) (hb : ∀ w : World, ((boot_heap w.params).isNs mainGlobals && (Array.mk [] : Array GenState).size == 0) = true)
    (h : ∀ (w : World) (os : OsState), (topRunQ p w (boot_heap w.params).objs.size ((boot_heap w.params).nsMap mainGlobals "__annotations__") N (bootT w os) (topStub p)).map (fun s => (looksL p (boot_heap w.params) s.abs, openSeen q loose (importedModules p.main.body) Xt g0 s.abs, Yf s.abs)) = some (true, openGood q loose, Ya w)) : LeftO p q loose Xt Yf Ya N g0 := fun w => by
  obtain ⟨⟨h', gs, d, k, os⟩, e1, e2⟩ := Option.map_eq_some_iff.mp (boot_open (N := N) e hN f w)
  obtain ⟨rfl, rfl, rfl, rfl⟩ : h' = boot_heap w.params ∧ gs = Array.mk [] ∧ d = boot_drawn ∧ k = boot_toks := by simpa using e2
  obtain ⟨r, hr, hl⟩ := Option.map_eq_some_iff.mp (h w os)
  obtain ⟨l1, l2⟩ := Prod.mk.inj hl
  rw [← topRunQ_eq] at hr
  have hr' := topRun_of hr
  rw [bootT_abs] at hr'
  unfold openEnds
  rw [e1]
  show (topFrom treeTable p w N _).map _ = _
  have t : topFrom treeTable p w N ⟨boot_heap w.params, Array.mk [], boot_drawn, boot_toks, os⟩ = some r.abs := by
    unfold topFrom
    dsimp only
    rw [hb w]
    dsimp only
    rw [hr']
    show (match looksL p (boot_heap w.params) r.abs with | true => _ | false => _) = _
    rw [l1]
  rw [t]
  exact congrArg some l2
end Mine
end
section
open PySem PySem.W PyProof.Rows
namespace Mine
/-- statements by their place -/
def nthS : List Stmt → Nat → Stmt
  | a :: _, 0 => a
  | _ :: l, n + 1 => nthS l n
  | [], _ => .Pass ⟨0, 0, 0, 0⟩
def inC : Stmt → List Stmt
  | .ClassDef _ _ _ b .. => b
  | _ => []
def fdS : Stmt → Str → FuncData
  | .FunctionDef n a b _ _ _ sc .., q => { name := n, qualname := q, params := a, body := .stmts b, scope := sc, globals := 3, closure := [], defaults := .none, kwdefaults := .none }
  | _, q => { name := q, qualname := q, params := { posonlyargs := [], args := [], vararg := none, kwonlyargs := [], kw_defaults := [], kwarg := none, defaults := [] }, body := .stmts [], scope := default, globals := 3, closure := [], defaults := .none, kwdefaults := .none }
abbrev pwBody : List Stmt := PySem.Challenge.pw_jx0005_01.main.body
noncomputable def fn28 : FuncData := { fdS (nthS (inC (nthS pwBody 1)) 0) "MutableMapping.popitem" with globals := 3, closure := [], defaults := .none, kwdefaults := .none, pyModule := .str "cachetools.mapping" 187, code := .ref 27 }
noncomputable def fn51 : FuncData := { fdS (nthS (inC (nthS pwBody 3)) 2) "Cache.__init__" with globals := 3, closure := [], defaults := .ref 44, kwdefaults := .none, pyModule := .str "cachetools" 218, code := .ref 50 }
noncomputable def fn58 : FuncData := { fdS (nthS (inC (nthS pwBody 3)) 3) "Cache.__repr__" with globals := 3, closure := [], defaults := .none, kwdefaults := .none, pyModule := .str "cachetools" 218, code := .ref 57 }
noncomputable def fn65 : FuncData := { fdS (nthS (inC (nthS pwBody 3)) 4) "Cache.__getitem__" with globals := 3, closure := [], defaults := .none, kwdefaults := .none, pyModule := .str "cachetools" 218, code := .ref 64 }
noncomputable def fn72 : FuncData := { fdS (nthS (inC (nthS pwBody 3)) 5) "Cache.__setitem__" with globals := 3, closure := [], defaults := .none, kwdefaults := .none, pyModule := .str "cachetools" 218, code := .ref 71 }
noncomputable def fn79 : FuncData := { fdS (nthS (inC (nthS pwBody 3)) 6) "Cache.__delitem__" with globals := 3, closure := [], defaults := .none, kwdefaults := .none, pyModule := .str "cachetools" 218, code := .ref 78 }
noncomputable def fn86 : FuncData := { fdS (nthS (inC (nthS pwBody 3)) 7) "Cache.__contains__" with globals := 3, closure := [], defaults := .none, kwdefaults := .none, pyModule := .str "cachetools" 218, code := .ref 85 }
noncomputable def fn93 : FuncData := { fdS (nthS (inC (nthS pwBody 3)) 8) "Cache.__missing__" with globals := 3, closure := [], defaults := .none, kwdefaults := .none, pyModule := .str "cachetools" 218, code := .ref 92 }
noncomputable def fn100 : FuncData := { fdS (nthS (inC (nthS pwBody 3)) 9) "Cache.__iter__" with globals := 3, closure := [], defaults := .none, kwdefaults := .none, pyModule := .str "cachetools" 218, code := .ref 99 }
noncomputable def fn107 : FuncData := { fdS (nthS (inC (nthS pwBody 3)) 10) "Cache.__len__" with globals := 3, closure := [], defaults := .none, kwdefaults := .none, pyModule := .str "cachetools" 218, code := .ref 106 }
noncomputable def fn115 : FuncData := { fdS (nthS (inC (nthS pwBody 3)) 11) "Cache.get" with globals := 3, closure := [], defaults := .ref 108, kwdefaults := .none, pyModule := .str "cachetools" 218, code := .ref 114 }
noncomputable def fn123 : FuncData := { fdS (nthS (inC (nthS pwBody 3)) 12) "Cache.pop" with globals := 3, closure := [], defaults := .ref 116, kwdefaults := .none, pyModule := .str "cachetools" 218, code := .ref 122 }
noncomputable def fn131 : FuncData := { fdS (nthS (inC (nthS pwBody 3)) 13) "Cache.setdefault" with globals := 3, closure := [], defaults := .ref 124, kwdefaults := .none, pyModule := .str "cachetools" 218, code := .ref 130 }
noncomputable def fn138 : FuncData := { fdS (nthS (inC (nthS pwBody 3)) 14) "Cache.clear" with globals := 3, closure := [], defaults := .none, kwdefaults := .none, pyModule := .str "cachetools" 218, code := .ref 137 }
noncomputable def fn145 : FuncData := { fdS (nthS (inC (nthS pwBody 3)) 15) "Cache.maxsize" with globals := 3, closure := [], defaults := .none, kwdefaults := .none, pyModule := .str "cachetools" 218, code := .ref 144 }
noncomputable def fn153 : FuncData := { fdS (nthS (inC (nthS pwBody 3)) 16) "Cache.currsize" with globals := 3, closure := [], defaults := .none, kwdefaults := .none, pyModule := .str "cachetools" 218, code := .ref 152 }
noncomputable def fn161 : FuncData := { fdS (nthS (inC (nthS pwBody 3)) 17) "Cache.getsizeof" with globals := 3, closure := [], defaults := .none, kwdefaults := .none, pyModule := .str "cachetools" 218, annotations := some 164, code := .ref 160 }
noncomputable def fn184 : FuncData := { fdS (nthS (inC (nthS pwBody 4)) 0) "RRCache.__init__" with globals := 3, closure := [], defaults := .ref 177, kwdefaults := .none, pyModule := .str "cachetools" 218, code := .ref 183 }
noncomputable def fn191 : FuncData := { fdS (nthS (inC (nthS pwBody 4)) 1) "RRCache.choice" with globals := 3, closure := [], defaults := .none, kwdefaults := .none, pyModule := .str "cachetools" 218, code := .ref 190 }
noncomputable def fn200 : FuncData := { fdS (nthS (inC (nthS pwBody 4)) 2) "RRCache.__setitem__" with globals := 3, closure := [], defaults := .ref 193, kwdefaults := .none, pyModule := .str "cachetools" 218, code := .ref 199 }
noncomputable def fn208 : FuncData := { fdS (nthS (inC (nthS pwBody 4)) 3) "RRCache.__delitem__" with globals := 3, closure := [], defaults := .ref 201, kwdefaults := .none, pyModule := .str "cachetools" 218, code := .ref 207 }
noncomputable def fn215 : FuncData := { fdS (nthS (inC (nthS pwBody 4)) 4) "RRCache.popitem" with globals := 3, closure := [], defaults := .none, kwdefaults := .none, pyModule := .str "cachetools" 218, code := .ref 214 }
noncomputable def fn222 : FuncData := { fdS (nthS (inC (nthS pwBody 4)) 5) "RRCache.clear" with globals := 3, closure := [], defaults := .none, kwdefaults := .none, pyModule := .str "cachetools" 218, code := .ref 221 }
noncomputable def fn234 : FuncData := { fdS (nthS pwBody 6) "_law_size" with globals := 3, closure := [], defaults := .none, kwdefaults := .none, pyModule := .str "law_jx0005_01" 470, code := .ref 233 }
noncomputable def fn239 : FuncData := { fdS (nthS pwBody 7) "_law_without" with globals := 3, closure := [], defaults := .none, kwdefaults := .none, pyModule := .str "law_jx0005_01" 470, code := .ref 238 }
noncomputable def fn246 : FuncData := { fdS (nthS pwBody 8) "_law_value" with globals := 3, closure := [], defaults := .none, kwdefaults := .none, pyModule := .str "law_jx0005_01" 470, code := .ref 245 }
noncomputable def fn251 : FuncData := { fdS (nthS pwBody 9) "_law_room" with globals := 3, closure := [], defaults := .none, kwdefaults := .none, pyModule := .str "law_jx0005_01" 470, code := .ref 250 }
noncomputable def fn258 : FuncData := { fdS (nthS pwBody 10) "_law_picked" with globals := 3, closure := [], defaults := .none, kwdefaults := .none, pyModule := .str "law_jx0005_01" 470, code := .ref 257 }
noncomputable def fn263 : FuncData := { fdS (nthS pwBody 11) "_law_put" with globals := 3, closure := [], defaults := .none, kwdefaults := .none, pyModule := .str "law_jx0005_01" 470, code := .ref 262 }
noncomputable def fn270 : FuncData := { fdS (nthS pwBody 12) "_law_deed" with globals := 3, closure := [], defaults := .none, kwdefaults := .none, pyModule := .str "law_jx0005_01" 470, code := .ref 269 }
noncomputable def fn275 : FuncData := { fdS (nthS pwBody 13) "_law_due" with globals := 3, closure := [], defaults := .none, kwdefaults := .none, pyModule := .str "law_jx0005_01" 470, code := .ref 274 }
noncomputable def fn280 : FuncData := { fdS (nthS pwBody 14) "law" with globals := 3, closure := [], defaults := .none, kwdefaults := .none, pyModule := .str "law_jx0005_01" 470, code := .ref 279 }
noncomputable def KK : Params → Frag := fun P =>
  (nat_lit 2, { cls := .none, data := .dict #[] }) ::
  (nat_lit 3, { cls := .type "dict", data := .dict #[{ hash := PyData.keyHash P "__name__", key := .str "__name__" 165, val := .str "law_jx0005_01" 470 }, { hash := PyData.keyHash P "__doc__", key := .str "__doc__" 166, val := .none }, { hash := PyData.keyHash P "__package__", key := .str "__package__" 167, val := .none }, { hash := PyData.keyHash P "__loader__", key := .str "__loader__" 168, val := .builtin "__main__.__loader__#opaque" }, { hash := PyData.keyHash P "__spec__", key := .str "__spec__" 169, val := .none }, { hash := PyData.keyHash P "__annotations__", key := .str "__annotations__" 170, val := .ref 6 }, { hash := PyData.keyHash P "__builtins__", key := .str "__builtins__" 171, val := .ref 4 }, { hash := PyData.keyHash P "__file__", key := .str "__file__" 173, val := .str "/claim/cut.py" 172 }, { hash := PyData.keyHash P "__cached__", key := .str "__cached__" 174, val := .none }, { hash := PyData.keyHash P "MutableMapping", key := .str "MutableMapping" 217, val := .ref 31 }, { hash := PyData.keyHash P "Cache", key := .str "Cache" 392, val := .ref 167 }, { hash := PyData.keyHash P "RRCache", key := .str "RRCache" 469, val := .ref 225 }, { hash := PyData.keyHash P "_law_size", key := .str "_law_size" 478, val := .ref 234 }, { hash := PyData.keyHash P "_law_without", key := .str "_law_without" 484, val := .ref 239 }, { hash := PyData.keyHash P "_law_value", key := .str "_law_value" 493, val := .ref 246 }, { hash := PyData.keyHash P "_law_room", key := .str "_law_room" 499, val := .ref 251 }, { hash := PyData.keyHash P "_law_picked", key := .str "_law_picked" 508, val := .ref 258 }, { hash := PyData.keyHash P "_law_put", key := .str "_law_put" 514, val := .ref 263 }, { hash := PyData.keyHash P "_law_deed", key := .str "_law_deed" 524, val := .ref 270 }, { hash := PyData.keyHash P "_law_due", key := .str "_law_due" 530, val := .ref 275 }, { hash := PyData.keyHash P "law", key := .str "law" 536, val := .ref 280 }] 21 }) ::
  (nat_lit 22, { cls := .type "tuple", data := .seq #[] }) ::
  (nat_lit 24, { cls := .type "tuple", data := .seq #[.str "self" 204, .str "key" 205, .str "value" 206] }) ::
  (nat_lit 25, { cls := .type "tuple", data := .seq #[] }) ::
  (nat_lit 27, { cls := .type "code", data := .fields #[.str "popitem" 201, .str "MutableMapping.popitem" 202, .str "/claim/cut.py" 203, .int 4 0, .int 1 0, .int 0 0, .int 0 0, .int 3 0, .ref 22, .bool true, .int 181 0, .ref 23, .none, .ref 24, .ref 25, .ref 26, .int 207 0, .int 4 0, .str "/claim/cut.py" 208] }) ::
  (nat_lit 28, { cls := .type "function", data := .func fn28 }) ::
  (nat_lit 29, { cls := .type "tuple", data := .seq #[] }) ::
  (nat_lit 30, { cls := .type "dict", data := .dict #[{ hash := PyData.keyHash P "__module__", key := .str "__module__" 196, val := .str "cachetools.mapping" 187 }, { hash := PyData.keyHash P "__firstlineno__", key := .str "__firstlineno__" 200, val := .int 2 199 }, { hash := PyData.keyHash P "popitem", key := .str "popitem" 209, val := .ref 28 }, { hash := PyData.keyHash P "__static_attributes__", key := .str "__static_attributes__" 210, val := .ref 29 }, { hash := PyData.keyHash P "__dict__", key := .str "__dict__" 212, val := .ref 32 }, { hash := PyData.keyHash P "__weakref__", key := .str "__weakref__" 214, val := .ref 33 }, { hash := PyData.keyHash P "__doc__", key := .str "__doc__" 215, val := .none }] 4 }) ::
  (nat_lit 31, { cls := .type "type", data := .cls { name := "MutableMapping", bases := [.type "object"], mro := [.ref 31, .type "object"], ns := 30, qualname := "MutableMapping", subclasses := [.ref 167] }, slots := #[none, none, some (.str "MutableMapping" 189), some (.str "MutableMapping" 197), some (.builtin "object.__new__"), some (.bool true)] }) ::
  (nat_lit 32, { cls := .type "getset_descriptor", data := .fields #[.str "__dict__" 211, .ref 31, .builtin "function.__dict__", .builtin "function.__dict__#set"] }) ::
  (nat_lit 33, { cls := .type "getset_descriptor", data := .fields #[.str "__weakref__" 213, .ref 31, .builtin "ExceptionGroup.__weakref__", .none] }) ::
  (nat_lit 36, { cls := .type "tuple", data := .seq #[.ref 31] }) ::
  (nat_lit 43, { cls := .type "object" }) ::
  (nat_lit 44, { cls := .type "tuple", data := .seq #[.none] }) ::
  (nat_lit 45, { cls := .type "tuple", data := .seq #[] }) ::
  (nat_lit 47, { cls := .type "tuple", data := .seq #[.str "self" 237, .str "maxsize" 238, .str "getsizeof" 239] }) ::
  (nat_lit 48, { cls := .type "tuple", data := .seq #[] }) ::
  (nat_lit 50, { cls := .type "code", data := .fields #[.str "__init__" 234, .str "Cache.__init__" 235, .str "/claim/cut.py" 236, .int 15 0, .int 3 0, .int 0 0, .int 0 0, .int 3 0, .ref 45, .bool true, .int 181 0, .ref 46, .none, .ref 47, .ref 48, .ref 49, .int 240 0, .int 15 0, .str "/claim/cut.py" 241] }) ::
  (nat_lit 51, { cls := .type "function", data := .func fn51 }) ::
  (nat_lit 52, { cls := .type "tuple", data := .seq #[] }) ::
  (nat_lit 54, { cls := .type "tuple", data := .seq #[.str "self" 246] }) ::
  (nat_lit 55, { cls := .type "tuple", data := .seq #[] }) ::
  (nat_lit 57, { cls := .type "code", data := .fields #[.str "__repr__" 243, .str "Cache.__repr__" 244, .str "/claim/cut.py" 245, .int 26 0, .int 1 0, .int 0 0, .int 0 0, .int 3 0, .ref 52, .bool true, .int 181 0, .ref 53, .none, .ref 54, .ref 55, .ref 56, .int 247 0, .int 26 0, .str "/claim/cut.py" 248] }) ::
  (nat_lit 58, { cls := .type "function", data := .func fn58 }) ::
  (nat_lit 59, { cls := .type "tuple", data := .seq #[] }) ::
  (nat_lit 61, { cls := .type "tuple", data := .seq #[.str "self" 253, .str "key" 254] }) ::
  (nat_lit 62, { cls := .type "tuple", data := .seq #[] }) ::
  (nat_lit 64, { cls := .type "code", data := .fields #[.str "__getitem__" 250, .str "Cache.__getitem__" 251, .str "/claim/cut.py" 252, .int 29 0, .int 2 0, .int 0 0, .int 0 0, .int 3 0, .ref 59, .bool true, .int 181 0, .ref 60, .none, .ref 61, .ref 62, .ref 63, .int 255 0, .int 29 0, .str "/claim/cut.py" 256] }) ::
  (nat_lit 65, { cls := .type "function", data := .func fn65 }) ::
  (nat_lit 66, { cls := .type "tuple", data := .seq #[] }) ::
  (nat_lit 68, { cls := .type "tuple", data := .seq #[.str "self" 261, .str "key" 262, .str "value" 263, .str "data" 264, .str "size" 265, .str "maxsize" 266, .str "itemsize" 267, .str "diffsize" 268] }) ::
  (nat_lit 69, { cls := .type "tuple", data := .seq #[] }) ::
  (nat_lit 71, { cls := .type "code", data := .fields #[.str "__setitem__" 258, .str "Cache.__setitem__" 259, .str "/claim/cut.py" 260, .int 35 0, .int 3 0, .int 0 0, .int 0 0, .int 3 0, .ref 66, .bool true, .int 181 0, .ref 67, .none, .ref 68, .ref 69, .ref 70, .int 269 0, .int 35 0, .str "/claim/cut.py" 270] }) ::
  (nat_lit 72, { cls := .type "function", data := .func fn72 }) ::
  (nat_lit 73, { cls := .type "tuple", data := .seq #[] }) ::
  (nat_lit 75, { cls := .type "tuple", data := .seq #[.str "self" 275, .str "key" 276, .str "size" 277, .str "itemsize" 278] }) ::
  (nat_lit 76, { cls := .type "tuple", data := .seq #[] }) ::
  (nat_lit 78, { cls := .type "code", data := .fields #[.str "__delitem__" 272, .str "Cache.__delitem__" 273, .str "/claim/cut.py" 274, .int 69 0, .int 2 0, .int 0 0, .int 0 0, .int 3 0, .ref 73, .bool true, .int 181 0, .ref 74, .none, .ref 75, .ref 76, .ref 77, .int 279 0, .int 69 0, .str "/claim/cut.py" 280] }) ::
  (nat_lit 79, { cls := .type "function", data := .func fn79 }) ::
  (nat_lit 80, { cls := .type "tuple", data := .seq #[] }) ::
  (nat_lit 82, { cls := .type "tuple", data := .seq #[.str "self" 285, .str "key" 286] }) ::
  (nat_lit 83, { cls := .type "tuple", data := .seq #[] }) ::
  (nat_lit 85, { cls := .type "code", data := .fields #[.str "__contains__" 282, .str "Cache.__contains__" 283, .str "/claim/cut.py" 284, .int 79 0, .int 2 0, .int 0 0, .int 0 0, .int 3 0, .ref 80, .bool true, .int 181 0, .ref 81, .none, .ref 82, .ref 83, .ref 84, .int 287 0, .int 79 0, .str "/claim/cut.py" 288] }) ::
  (nat_lit 86, { cls := .type "function", data := .func fn86 }) ::
  (nat_lit 87, { cls := .type "tuple", data := .seq #[] }) ::
  (nat_lit 89, { cls := .type "tuple", data := .seq #[.str "self" 293, .str "key" 294] }) ::
  (nat_lit 90, { cls := .type "tuple", data := .seq #[] }) ::
  (nat_lit 92, { cls := .type "code", data := .fields #[.str "__missing__" 290, .str "Cache.__missing__" 291, .str "/claim/cut.py" 292, .int 82 0, .int 2 0, .int 0 0, .int 0 0, .int 3 0, .ref 87, .bool true, .int 181 0, .ref 88, .none, .ref 89, .ref 90, .ref 91, .int 295 0, .int 82 0, .str "/claim/cut.py" 296] }) ::
  (nat_lit 93, { cls := .type "function", data := .func fn93 }) ::
  (nat_lit 94, { cls := .type "tuple", data := .seq #[] }) ::
  (nat_lit 96, { cls := .type "tuple", data := .seq #[.str "self" 301] }) ::
  (nat_lit 97, { cls := .type "tuple", data := .seq #[] }) ::
  (nat_lit 99, { cls := .type "code", data := .fields #[.str "__iter__" 298, .str "Cache.__iter__" 299, .str "/claim/cut.py" 300, .int 85 0, .int 1 0, .int 0 0, .int 0 0, .int 3 0, .ref 94, .bool true, .int 181 0, .ref 95, .none, .ref 96, .ref 97, .ref 98, .int 302 0, .int 85 0, .str "/claim/cut.py" 303] }) ::
  (nat_lit 100, { cls := .type "function", data := .func fn100 }) ::
  (nat_lit 101, { cls := .type "tuple", data := .seq #[] }) ::
  (nat_lit 103, { cls := .type "tuple", data := .seq #[.str "self" 308] }) ::
  (nat_lit 104, { cls := .type "tuple", data := .seq #[] }) ::
  (nat_lit 106, { cls := .type "code", data := .fields #[.str "__len__" 305, .str "Cache.__len__" 306, .str "/claim/cut.py" 307, .int 88 0, .int 1 0, .int 0 0, .int 0 0, .int 3 0, .ref 101, .bool true, .int 181 0, .ref 102, .none, .ref 103, .ref 104, .ref 105, .int 309 0, .int 88 0, .str "/claim/cut.py" 310] }) ::
  (nat_lit 107, { cls := .type "function", data := .func fn107 }) ::
  (nat_lit 108, { cls := .type "tuple", data := .seq #[.none] }) ::
  (nat_lit 109, { cls := .type "tuple", data := .seq #[] }) ::
  (nat_lit 111, { cls := .type "tuple", data := .seq #[.str "self" 315, .str "key" 316, .str "default" 317] }) ::
  (nat_lit 112, { cls := .type "tuple", data := .seq #[] }) ::
  (nat_lit 114, { cls := .type "code", data := .fields #[.str "get" 312, .str "Cache.get" 313, .str "/claim/cut.py" 314, .int 91 0, .int 3 0, .int 0 0, .int 0 0, .int 3 0, .ref 109, .bool true, .int 181 0, .ref 110, .none, .ref 111, .ref 112, .ref 113, .int 318 0, .int 91 0, .str "/claim/cut.py" 319] }) ::
  (nat_lit 115, { cls := .type "function", data := .func fn115 }) ::
  (nat_lit 116, { cls := .type "tuple", data := .seq #[.ref 43] }) ::
  (nat_lit 117, { cls := .type "tuple", data := .seq #[] }) ::
  (nat_lit 119, { cls := .type "tuple", data := .seq #[.str "self" 324, .str "key" 325, .str "default" 326, .str "value" 327] }) ::
  (nat_lit 120, { cls := .type "tuple", data := .seq #[] }) ::
  (nat_lit 122, { cls := .type "code", data := .fields #[.str "pop" 321, .str "Cache.pop" 322, .str "/claim/cut.py" 323, .int 97 0, .int 3 0, .int 0 0, .int 0 0, .int 3 0, .ref 117, .bool true, .int 181 0, .ref 118, .none, .ref 119, .ref 120, .ref 121, .int 328 0, .int 97 0, .str "/claim/cut.py" 329] }) ::
  (nat_lit 123, { cls := .type "function", data := .func fn123 }) ::
  (nat_lit 124, { cls := .type "tuple", data := .seq #[.none] }) ::
  (nat_lit 125, { cls := .type "tuple", data := .seq #[] }) ::
  (nat_lit 127, { cls := .type "tuple", data := .seq #[.str "self" 334, .str "key" 335, .str "default" 336, .str "value" 337] }) ::
  (nat_lit 128, { cls := .type "tuple", data := .seq #[] }) ::
  (nat_lit 130, { cls := .type "code", data := .fields #[.str "setdefault" 331, .str "Cache.setdefault" 332, .str "/claim/cut.py" 333, .int 107 0, .int 3 0, .int 0 0, .int 0 0, .int 3 0, .ref 125, .bool true, .int 181 0, .ref 126, .none, .ref 127, .ref 128, .ref 129, .int 338 0, .int 107 0, .str "/claim/cut.py" 339] }) ::
  (nat_lit 131, { cls := .type "function", data := .func fn131 }) ::
  (nat_lit 132, { cls := .type "tuple", data := .seq #[] }) ::
  (nat_lit 134, { cls := .type "tuple", data := .seq #[.str "self" 344, .str "size" 345] }) ::
  (nat_lit 135, { cls := .type "tuple", data := .seq #[] }) ::
  (nat_lit 137, { cls := .type "code", data := .fields #[.str "clear" 341, .str "Cache.clear" 342, .str "/claim/cut.py" 343, .int 114 0, .int 1 0, .int 0 0, .int 0 0, .int 3 0, .ref 132, .bool true, .int 181 0, .ref 133, .none, .ref 134, .ref 135, .ref 136, .int 346 0, .int 114 0, .str "/claim/cut.py" 347] }) ::
  (nat_lit 138, { cls := .type "function", data := .func fn138 }) ::
  (nat_lit 139, { cls := .type "tuple", data := .seq #[] }) ::
  (nat_lit 141, { cls := .type "tuple", data := .seq #[.str "self" 352] }) ::
  (nat_lit 142, { cls := .type "tuple", data := .seq #[] }) ::
  (nat_lit 144, { cls := .type "code", data := .fields #[.str "maxsize" 349, .str "Cache.maxsize" 350, .str "/claim/cut.py" 351, .int 121 0, .int 1 0, .int 0 0, .int 0 0, .int 3 0, .ref 139, .bool true, .int 181 0, .ref 140, .none, .ref 141, .ref 142, .ref 143, .int 353 0, .int 121 0, .str "/claim/cut.py" 354] }) ::
  (nat_lit 145, { cls := .type "function", data := .func fn145 }) ::
  (nat_lit 146, { cls := .type "property", data := .fields #[.ref 145, .none, .none, .none, .str "maxsize" 356, .bool false] }) ::
  (nat_lit 147, { cls := .type "tuple", data := .seq #[] }) ::
  (nat_lit 149, { cls := .type "tuple", data := .seq #[.str "self" 360] }) ::
  (nat_lit 150, { cls := .type "tuple", data := .seq #[] }) ::
  (nat_lit 152, { cls := .type "code", data := .fields #[.str "currsize" 357, .str "Cache.currsize" 358, .str "/claim/cut.py" 359, .int 125 0, .int 1 0, .int 0 0, .int 0 0, .int 3 0, .ref 147, .bool true, .int 181 0, .ref 148, .none, .ref 149, .ref 150, .ref 151, .int 361 0, .int 125 0, .str "/claim/cut.py" 362] }) ::
  (nat_lit 153, { cls := .type "function", data := .func fn153 }) ::
  (nat_lit 154, { cls := .type "property", data := .fields #[.ref 153, .none, .none, .none, .str "currsize" 364, .bool false] }) ::
  (nat_lit 155, { cls := .type "tuple", data := .seq #[] }) ::
  (nat_lit 157, { cls := .type "tuple", data := .seq #[.str "value" 368] }) ::
  (nat_lit 158, { cls := .type "tuple", data := .seq #[] }) ::
  (nat_lit 160, { cls := .type "code", data := .fields #[.str "getsizeof" 365, .str "Cache.getsizeof" 366, .str "/claim/cut.py" 367, .int 129 0, .int 1 0, .int 0 0, .int 0 0, .int 3 0, .ref 155, .bool true, .int 181 0, .ref 156, .none, .ref 157, .ref 158, .ref 159, .int 369 0, .int 129 0, .str "/claim/cut.py" 370] }) ::
  (nat_lit 161, { cls := .type "function", data := .func fn161 }) ::
  (nat_lit 162, { cls := .type "dict", data := .dict #[{ hash := PyData.keyHash P "__module__", key := .str "__module__" 372, val := .str "cachetools" 218 }, { hash := PyData.keyHash P "__name__", key := .str "__name__" 375, val := .str "getsizeof" 374 }, { hash := PyData.keyHash P "__qualname__", key := .str "__qualname__" 378, val := .str "Cache.getsizeof" 377 }, { hash := PyData.keyHash P "__doc__", key := .str "__doc__" 380, val := .none }, { hash := PyData.keyHash P "__annotations__", key := .str "__annotations__" 382, val := .ref 164 }] 5 }) ::
  (nat_lit 163, { cls := .type "staticmethod", dict := some 162, data := .fields #[.ref 161, .bool false] }) ::
  (nat_lit 164, { cls := .type "dict", data := .dict #[] }) ::
  (nat_lit 165, { cls := .type "tuple", data := .seq #[.str "__currsize" 384, .str "__data" 385, .str "__maxsize" 386, .str "__size" 387, .str "getsizeof" 388] }) ::
  (nat_lit 166, { cls := .type "dict", data := .dict #[{ hash := PyData.keyHash P "__module__", key := .str "__module__" 227, val := .str "cachetools" 218 }, { hash := PyData.keyHash P "__firstlineno__", key := .str "__firstlineno__" 231, val := .int 11 230 }, { hash := PyData.keyHash P "_Cache__marker", key := .str "_Cache__marker" 232, val := .ref 43 }, { hash := PyData.keyHash P "_Cache__size", key := .str "_Cache__size" 233, val := .none }, { hash := PyData.keyHash P "__init__", key := .str "__init__" 242, val := .ref 51 }, { hash := PyData.keyHash P "__repr__", key := .str "__repr__" 249, val := .ref 58 }, { hash := PyData.keyHash P "__getitem__", key := .str "__getitem__" 257, val := .ref 65 }, { hash := PyData.keyHash P "__setitem__", key := .str "__setitem__" 271, val := .ref 72 }, { hash := PyData.keyHash P "__delitem__", key := .str "__delitem__" 281, val := .ref 79 }, { hash := PyData.keyHash P "__contains__", key := .str "__contains__" 289, val := .ref 86 }, { hash := PyData.keyHash P "__missing__", key := .str "__missing__" 297, val := .ref 93 }, { hash := PyData.keyHash P "__iter__", key := .str "__iter__" 304, val := .ref 100 }, { hash := PyData.keyHash P "__len__", key := .str "__len__" 311, val := .ref 107 }, { hash := PyData.keyHash P "get", key := .str "get" 320, val := .ref 115 }, { hash := PyData.keyHash P "pop", key := .str "pop" 330, val := .ref 123 }, { hash := PyData.keyHash P "setdefault", key := .str "setdefault" 340, val := .ref 131 }, { hash := PyData.keyHash P "clear", key := .str "clear" 348, val := .ref 138 }, { hash := PyData.keyHash P "maxsize", key := .str "maxsize" 356, val := .ref 146 }, { hash := PyData.keyHash P "currsize", key := .str "currsize" 364, val := .ref 154 }, { hash := PyData.keyHash P "getsizeof", key := .str "getsizeof" 383, val := .ref 163 }, { hash := PyData.keyHash P "__static_attributes__", key := .str "__static_attributes__" 389, val := .ref 165 }, { hash := PyData.keyHash P "__doc__", key := .str "__doc__" 390, val := .none }] 2 }) ::
  (nat_lit 167, { cls := .type "type", data := .cls { name := "Cache", bases := [.ref 31], mro := [.ref 167, .ref 31, .type "object"], ns := 166, qualname := "Cache", subclasses := [.ref 225] }, slots := #[some (.ref 36), none, some (.str "Cache" 220), some (.str "Cache" 228), some (.builtin "object.__new__"), some (.bool true)] }) ::
  (nat_lit 170, { cls := .type "tuple", data := .seq #[.ref 167] }) ::
  (nat_lit 177, { cls := .type "tuple", data := .seq #[.none] }) ::
  (nat_lit 178, { cls := .type "tuple", data := .seq #[] }) ::
  (nat_lit 180, { cls := .type "tuple", data := .seq #[.str "self" 408, .str "maxsize" 409, .str "choice" 410, .str "getsizeof" 411] }) ::
  (nat_lit 181, { cls := .type "tuple", data := .seq #[] }) ::
  (nat_lit 183, { cls := .type "code", data := .fields #[.str "__init__" 405, .str "RRCache.__init__" 406, .str "/claim/cut.py" 407, .int 134 0, .int 4 0, .int 0 0, .int 0 0, .int 3 0, .ref 178, .bool true, .int 181 0, .ref 179, .none, .ref 180, .ref 181, .ref 182, .int 412 0, .int 134 0, .str "/claim/cut.py" 413] }) ::
  (nat_lit 184, { cls := .type "function", data := .func fn184 }) ::
  (nat_lit 185, { cls := .type "tuple", data := .seq #[] }) ::
  (nat_lit 187, { cls := .type "tuple", data := .seq #[.str "self" 418] }) ::
  (nat_lit 188, { cls := .type "tuple", data := .seq #[] }) ::
  (nat_lit 190, { cls := .type "code", data := .fields #[.str "choice" 415, .str "RRCache.choice" 416, .str "/claim/cut.py" 417, .int 140 0, .int 1 0, .int 0 0, .int 0 0, .int 3 0, .ref 185, .bool true, .int 181 0, .ref 186, .none, .ref 187, .ref 188, .ref 189, .int 419 0, .int 140 0, .str "/claim/cut.py" 420] }) ::
  (nat_lit 191, { cls := .type "function", data := .func fn191 }) ::
  (nat_lit 192, { cls := .type "property", data := .fields #[.ref 191, .none, .none, .none, .str "choice" 422, .bool false] }) ::
  (nat_lit 193, { cls := .type "tuple", data := .seq #[.ref 72] }) ::
  (nat_lit 194, { cls := .type "tuple", data := .seq #[] }) ::
  (nat_lit 196, { cls := .type "tuple", data := .seq #[.str "self" 427, .str "key" 428, .str "value" 429, .str "cache_setitem" 430] }) ::
  (nat_lit 197, { cls := .type "tuple", data := .seq #[] }) ::
  (nat_lit 199, { cls := .type "code", data := .fields #[.str "__setitem__" 424, .str "RRCache.__setitem__" 425, .str "/claim/cut.py" 426, .int 144 0, .int 4 0, .int 0 0, .int 0 0, .int 3 0, .ref 194, .bool true, .int 181 0, .ref 195, .none, .ref 196, .ref 197, .ref 198, .int 431 0, .int 144 0, .str "/claim/cut.py" 432] }) ::
  (nat_lit 200, { cls := .type "function", data := .func fn200 }) ::
  (nat_lit 201, { cls := .type "tuple", data := .seq #[.ref 79] }) ::
  (nat_lit 202, { cls := .type "tuple", data := .seq #[] }) ::
  (nat_lit 204, { cls := .type "tuple", data := .seq #[.str "self" 438, .str "key" 439, .str "cache_delitem" 440, .str "index" 441, .str "last" 442] }) ::
  (nat_lit 205, { cls := .type "tuple", data := .seq #[] }) ::
  (nat_lit 207, { cls := .type "code", data := .fields #[.str "__delitem__" 435, .str "RRCache.__delitem__" 436, .str "/claim/cut.py" 437, .int 150 0, .int 3 0, .int 0 0, .int 0 0, .int 3 0, .ref 202, .bool true, .int 181 0, .ref 203, .none, .ref 204, .ref 205, .ref 206, .int 443 0, .int 150 0, .str "/claim/cut.py" 444] }) ::
  (nat_lit 208, { cls := .type "function", data := .func fn208 }) ::
  (nat_lit 209, { cls := .type "tuple", data := .seq #[] }) ::
  (nat_lit 211, { cls := .type "tuple", data := .seq #[.str "self" 449, .str "keys" 450, .str "key" 451, .str "value" 452] }) ::
  (nat_lit 212, { cls := .type "tuple", data := .seq #[] }) ::
  (nat_lit 214, { cls := .type "code", data := .fields #[.str "popitem" 446, .str "RRCache.popitem" 447, .str "/claim/cut.py" 448, .int 159 0, .int 1 0, .int 0 0, .int 0 0, .int 3 0, .ref 209, .bool true, .int 181 0, .ref 210, .none, .ref 211, .ref 212, .ref 213, .int 453 0, .int 159 0, .str "/claim/cut.py" 454] }) ::
  (nat_lit 215, { cls := .type "function", data := .func fn215 }) ::
  (nat_lit 216, { cls := .type "tuple", data := .seq #[] }) ::
  (nat_lit 218, { cls := .type "tuple", data := .seq #[.str "self" 459] }) ::
  (nat_lit 219, { cls := .type "tuple", data := .seq #[] }) ::
  (nat_lit 221, { cls := .type "code", data := .fields #[.str "clear" 456, .str "RRCache.clear" 457, .str "/claim/cut.py" 458, .int 168 0, .int 1 0, .int 0 0, .int 0 0, .int 3 0, .ref 216, .bool true, .int 181 0, .ref 217, .none, .ref 218, .ref 219, .ref 220, .int 460 0, .int 168 0, .str "/claim/cut.py" 461] }) ::
  (nat_lit 222, { cls := .type "function", data := .func fn222 }) ::
  (nat_lit 223, { cls := .type "tuple", data := .seq #[.str "__choice" 463, .str "__index" 464, .str "__keys" 465] }) ::
  (nat_lit 224, { cls := .type "dict", data := .dict #[{ hash := PyData.keyHash P "__module__", key := .str "__module__" 400, val := .str "cachetools" 218 }, { hash := PyData.keyHash P "__firstlineno__", key := .str "__firstlineno__" 404, val := .int 132 403 }, { hash := PyData.keyHash P "__init__", key := .str "__init__" 414, val := .ref 184 }, { hash := PyData.keyHash P "choice", key := .str "choice" 422, val := .ref 192 }, { hash := PyData.keyHash P "__setitem__", key := .str "__setitem__" 433, val := .ref 200 }, { hash := PyData.keyHash P "__delitem__", key := .str "__delitem__" 445, val := .ref 208 }, { hash := PyData.keyHash P "popitem", key := .str "popitem" 455, val := .ref 215 }, { hash := PyData.keyHash P "clear", key := .str "clear" 462, val := .ref 222 }, { hash := PyData.keyHash P "__static_attributes__", key := .str "__static_attributes__" 466, val := .ref 223 }, { hash := PyData.keyHash P "__doc__", key := .str "__doc__" 467, val := .none }] 2 }) ::
  (nat_lit 225, { cls := .type "type", data := .cls { name := "RRCache", bases := [.ref 167], mro := [.ref 225, .ref 167, .ref 31, .type "object"], ns := 224, qualname := "RRCache" }, slots := #[some (.ref 170), none, some (.str "RRCache" 393), some (.str "RRCache" 401), some (.builtin "object.__new__"), some (.bool true)] }) ::
  (nat_lit 228, { cls := .type "tuple", data := .seq #[] }) ::
  (nat_lit 230, { cls := .type "tuple", data := .seq #[.str "value" 475] }) ::
  (nat_lit 231, { cls := .type "tuple", data := .seq #[] }) ::
  (nat_lit 233, { cls := .type "code", data := .fields #[.str "_law_size" 472, .str "_law_size" 473, .str "/claim/cut.py" 474, .int 173 0, .int 1 0, .int 0 0, .int 0 0, .int 3 0, .ref 228, .bool true, .int 181 0, .ref 229, .none, .ref 230, .ref 231, .ref 232, .int 476 0, .int 173 0, .str "/claim/cut.py" 477] }) ::
  (nat_lit 234, { cls := .type "function", data := .func fn234 }) ::
  (nat_lit 235, { cls := .type "tuple", data := .seq #[] }) ::
  (nat_lit 238, { cls := .type "code", data := .fields #[.str "_law_without" 479, .str "_law_without" 480, .str "/claim/cut.py" 481, .int 175 0, .int 2 0, .int 0 0, .int 0 0, .int 3 0, .ref 235, .bool true, .int 181 0, .ref 236, .none, .none, .none, .ref 237, .int 482 0, .int 175 0, .str "/claim/cut.py" 483] }) ::
  (nat_lit 239, { cls := .type "function", data := .func fn239 }) ::
  (nat_lit 240, { cls := .type "tuple", data := .seq #[] }) ::
  (nat_lit 242, { cls := .type "tuple", data := .seq #[.str "pairs" 488, .str "key" 489, .str "pair" 490] }) ::
  (nat_lit 243, { cls := .type "tuple", data := .seq #[] }) ::
  (nat_lit 245, { cls := .type "code", data := .fields #[.str "_law_value" 485, .str "_law_value" 486, .str "/claim/cut.py" 487, .int 177 0, .int 2 0, .int 0 0, .int 0 0, .int 3 0, .ref 240, .bool true, .int 181 0, .ref 241, .none, .ref 242, .ref 243, .ref 244, .int 491 0, .int 177 0, .str "/claim/cut.py" 492] }) ::
  (nat_lit 246, { cls := .type "function", data := .func fn246 }) ::
  (nat_lit 247, { cls := .type "tuple", data := .seq #[] }) ::
  (nat_lit 250, { cls := .type "code", data := .fields #[.str "_law_room" 494, .str "_law_room" 495, .str "/claim/cut.py" 496, .int 182 0, .int 2 0, .int 0 0, .int 0 0, .int 3 0, .ref 247, .bool true, .int 181 0, .ref 248, .none, .none, .none, .ref 249, .int 497 0, .int 182 0, .str "/claim/cut.py" 498] }) ::
  (nat_lit 251, { cls := .type "function", data := .func fn251 }) ::
  (nat_lit 252, { cls := .type "tuple", data := .seq #[] }) ::
  (nat_lit 254, { cls := .type "tuple", data := .seq #[.str "names" 503, .str "numbers" 504, .str "at" 505] }) ::
  (nat_lit 255, { cls := .type "tuple", data := .seq #[] }) ::
  (nat_lit 257, { cls := .type "code", data := .fields #[.str "_law_picked" 500, .str "_law_picked" 501, .str "/claim/cut.py" 502, .int 184 0, .int 3 0, .int 0 0, .int 0 0, .int 3 0, .ref 252, .bool true, .int 181 0, .ref 253, .none, .ref 254, .ref 255, .ref 256, .int 506 0, .int 184 0, .str "/claim/cut.py" 507] }) ::
  (nat_lit 258, { cls := .type "function", data := .func fn258 }) ::
  (nat_lit 259, { cls := .type "tuple", data := .seq #[] }) ::
  (nat_lit 262, { cls := .type "code", data := .fields #[.str "_law_put" 509, .str "_law_put" 510, .str "/claim/cut.py" 511, .int 186 0, .int 7 0, .int 0 0, .int 0 0, .int 3 0, .ref 259, .bool true, .int 181 0, .ref 260, .none, .none, .none, .ref 261, .int 512 0, .int 186 0, .str "/claim/cut.py" 513] }) ::
  (nat_lit 263, { cls := .type "function", data := .func fn263 }) ::
  (nat_lit 264, { cls := .type "tuple", data := .seq #[] }) ::
  (nat_lit 266, { cls := .type "tuple", data := .seq #[.str "cache" 518, .str "deed" 519, .str "key" 520, .str "value" 521] }) ::
  (nat_lit 267, { cls := .type "tuple", data := .seq #[] }) ::
  (nat_lit 269, { cls := .type "code", data := .fields #[.str "_law_deed" 515, .str "_law_deed" 516, .str "/claim/cut.py" 517, .int 197 0, .int 4 0, .int 0 0, .int 0 0, .int 3 0, .ref 264, .bool true, .int 181 0, .ref 265, .none, .ref 266, .ref 267, .ref 268, .int 522 0, .int 197 0, .str "/claim/cut.py" 523] }) ::
  (nat_lit 270, { cls := .type "function", data := .func fn270 }) ::
  (nat_lit 271, { cls := .type "tuple", data := .seq #[] }) ::
  (nat_lit 274, { cls := .type "code", data := .fields #[.str "_law_due" 525, .str "_law_due" 526, .str "/claim/cut.py" 527, .int 225 0, .int 8 0, .int 0 0, .int 0 0, .int 3 0, .ref 271, .bool true, .int 181 0, .ref 272, .none, .none, .none, .ref 273, .int 528 0, .int 225 0, .str "/claim/cut.py" 529] }) ::
  (nat_lit 275, { cls := .type "function", data := .func fn275 }) ::
  (nat_lit 276, { cls := .type "tuple", data := .seq #[] }) ::
  (nat_lit 279, { cls := .type "code", data := .fields #[.str "law" 531, .str "law" 532, .str "/claim/cut.py" 533, .int 247 0, .int 1 0, .int 0 0, .int 0 0, .int 3 0, .ref 276, .bool true, .int 181 0, .ref 277, .none, .none, .none, .ref 278, .int 534 0, .int 247 0, .str "/claim/cut.py" 535] }) ::
  (nat_lit 280, { cls := .type "function", data := .func fn280 }) :: []
noncomputable def KA : List Addr := nat_lit 2 :: nat_lit 3 :: nat_lit 22 :: nat_lit 24 :: nat_lit 25 :: nat_lit 27 :: nat_lit 28 :: nat_lit 29 :: nat_lit 30 :: nat_lit 31 :: nat_lit 32 :: nat_lit 33 :: nat_lit 36 :: nat_lit 43 :: nat_lit 44 :: nat_lit 45 :: nat_lit 47 :: nat_lit 48 :: nat_lit 50 :: nat_lit 51 :: nat_lit 52 :: nat_lit 54 :: nat_lit 55 :: nat_lit 57 :: nat_lit 58 :: nat_lit 59 :: nat_lit 61 :: nat_lit 62 :: nat_lit 64 :: nat_lit 65 :: nat_lit 66 :: nat_lit 68 :: nat_lit 69 :: nat_lit 71 :: nat_lit 72 :: nat_lit 73 :: nat_lit 75 :: nat_lit 76 :: nat_lit 78 :: nat_lit 79 :: nat_lit 80 :: nat_lit 82 :: nat_lit 83 :: nat_lit 85 :: nat_lit 86 :: nat_lit 87 :: nat_lit 89 :: nat_lit 90 :: nat_lit 92 :: nat_lit 93 :: nat_lit 94 :: nat_lit 96 :: nat_lit 97 :: nat_lit 99 :: nat_lit 100 :: nat_lit 101 :: nat_lit 103 :: nat_lit 104 :: nat_lit 106 :: nat_lit 107 :: nat_lit 108 :: nat_lit 109 :: nat_lit 111 :: nat_lit 112 :: nat_lit 114 :: nat_lit 115 :: nat_lit 116 :: nat_lit 117 :: nat_lit 119 :: nat_lit 120 :: nat_lit 122 :: nat_lit 123 :: nat_lit 124 :: nat_lit 125 :: nat_lit 127 :: nat_lit 128 :: nat_lit 130 :: nat_lit 131 :: nat_lit 132 :: nat_lit 134 :: nat_lit 135 :: nat_lit 137 :: nat_lit 138 :: nat_lit 139 :: nat_lit 141 :: nat_lit 142 :: nat_lit 144 :: nat_lit 145 :: nat_lit 146 :: nat_lit 147 :: nat_lit 149 :: nat_lit 150 :: nat_lit 152 :: nat_lit 153 :: nat_lit 154 :: nat_lit 155 :: nat_lit 157 :: nat_lit 158 :: nat_lit 160 :: nat_lit 161 :: nat_lit 162 :: nat_lit 163 :: nat_lit 164 :: nat_lit 165 :: nat_lit 166 :: nat_lit 167 :: nat_lit 170 :: nat_lit 177 :: nat_lit 178 :: nat_lit 180 :: nat_lit 181 :: nat_lit 183 :: nat_lit 184 :: nat_lit 185 :: nat_lit 187 :: nat_lit 188 :: nat_lit 190 :: nat_lit 191 :: nat_lit 192 :: nat_lit 193 :: nat_lit 194 :: nat_lit 196 :: nat_lit 197 :: nat_lit 199 :: nat_lit 200 :: nat_lit 201 :: nat_lit 202 :: nat_lit 204 :: nat_lit 205 :: nat_lit 207 :: nat_lit 208 :: nat_lit 209 :: nat_lit 211 :: nat_lit 212 :: nat_lit 214 :: nat_lit 215 :: nat_lit 216 :: nat_lit 218 :: nat_lit 219 :: nat_lit 221 :: nat_lit 222 :: nat_lit 223 :: nat_lit 224 :: nat_lit 225 :: nat_lit 228 :: nat_lit 230 :: nat_lit 231 :: nat_lit 233 :: nat_lit 234 :: nat_lit 235 :: nat_lit 238 :: nat_lit 239 :: nat_lit 240 :: nat_lit 242 :: nat_lit 243 :: nat_lit 245 :: nat_lit 246 :: nat_lit 247 :: nat_lit 250 :: nat_lit 251 :: nat_lit 252 :: nat_lit 254 :: nat_lit 255 :: nat_lit 257 :: nat_lit 258 :: nat_lit 259 :: nat_lit 262 :: nat_lit 263 :: nat_lit 264 :: nat_lit 266 :: nat_lit 267 :: nat_lit 269 :: nat_lit 270 :: nat_lit 271 :: nat_lit 274 :: nat_lit 275 :: nat_lit 276 :: nat_lit 279 :: nat_lit 280 :: []
noncomputable def qv : Program := { PySem.Challenge.pw_jx0005_01 with main := { PySem.Challenge.pw_jx0005_01.main with body := [nthS pwBody 1, nthS pwBody 3, nthS pwBody 4, nthS pwBody 6, nthS pwBody 7, nthS pwBody 8, nthS pwBody 9, nthS pwBody 10, nthS pwBody 11, nthS pwBody 12, nthS pwBody 13, nthS pwBody 14] } }
end Mine
end
section
open PySem PySem.W PyProof.Rows
namespace Mine
theorem hKA : ∀ P, KA = (KK P).map (·.1) := fun _ => by kernel_rfl
theorem said_ : PySem.Challenge.rw_jx0005_01.wellSaid = true := by
  rw [OpenLaw.wellSaid]
  repeat' (first | with_reducible refine look_both ?_ ?_ | (rw [OpenRow.wellSaid]; with_reducible refine look_both ?_ ?_) | (rw [OpenRow.partSaid]; with_reducible refine look_both ?_ ?_) | (rw [looksOpen]; with_reducible refine look_both ?_ ?_))
  all_goals decide +kernel
theorem left_ : LeftO PySem.Challenge.rw_jx0005_01.row.toRowW.prog qv ["Cache", "RRCache"] (fun s => xlAt qv [] s && recOk (RowW.records PySem.Challenge.rw_jx0005_01.row.toRowW) s) (Hook.obs (kmHook KK KA hKA [277])) (Hook.val (kmHook KK KA hKA [277])) 4238 :=
  left_quick (by kernel_rfl) (by kernel_rfl) (fun s => by kernel_rfl) (fun w => by kernel_rfl) (fun w os => by kernel_rfl)
end Mine
end
section
open PySem PySem.W PySem.Calls PyProof.Rows PyProof.V PySem.Spec
namespace Mine

abbrev PG : Program := PySem.Challenge.rw_jx0005_01.row.prog

/-- every object off S stays -/
def Mod (S : List Addr) (h h' : Heap) : Prop := ∀ b o, b ∉ S → h.get? b = some o → h'.get? b = some o
theorem Mod.refl (S : List Addr) (h : Heap) : Mod S h h := fun _ _ _ e => e
theorem Mod.trans {S : List Addr} {h₁ h₂ h₃ : Heap} (x : Mod S h₁ h₂) (y : Mod S h₂ h₃) : Mod S h₁ h₃ := fun b o n e => y b o n (x b o n e)
theorem Mod.of_keep {S : List Addr} {h h' : Heap} (k : ∀ b o, h.get? b = some o → h'.get? b = some o) : Mod S h h' := fun b o _ e => k b o e

theorem fr_mod {S : List Addr} {g h h' : Heap} {L : Addr} {m : Str → Option Value} (F : Fr g L h m) (M : Mod S h h') (hL : L ∉ S) (hS : ∀ a ∈ S, g.get? a = none) : Fr g L h' m := by
  obtain ⟨oL, es, ep, hLo, r⟩ := F.ns
  exact ⟨⟨oL, es, ep, M L oL hL hLo, r⟩, fun b o e => M b o (fun hm => by rw [hS b hm] at e; cases e) (F.keep b o e), F.above⟩
theorem news_mod {S : List Addr} {g h h' : Heap} {L : Addr} {news : List (Addr × Obj)} (N : News g L h news) (M : Mod S h h') (hd : ∀ p ∈ news, p.1 ∉ S) : News g L h' news :=
  fun p hp => ⟨M _ _ (hd p hp) (N p hp).1, (N p hp).2⟩

def Fin (R : Result → Shared → Prop) (fl : Flow) (s' : Shared) : Prop := R (.ok (.ret (match fl with | .ret v => v | _ => .none))) s'
theorem Fin.ret {R : Result → Shared → Prop} {v : Value} {s' : Shared} (h : R (.ok (.ret v)) s') : Fin R (.ret v) s' := h
theorem Fin.next {R : Result → Shared → Prop} {s' : Shared} (h : R (.ok (.ret .none)) s') : Fin R .next s' := h

section
variable {prog : Program} {w : World} {A : Around} {s : Shared} {K : Frag} {p : Program} {loose : List Str} {mean : ExcName → Option Value} {mg mb : Str → Option Value}
  {g : Heap} {L f : Addr} {m : Str → Option Value} {R : Result → Shared → Prop} {name qual : Str} {params : Arguments} {body : List Stmt} {scope : Scope} {dV kV doc pm cdv ct oc : Value} {an od : Option Addr} {osl : Array (Option Value)}
  {args : Args} {binds : List (Str × Value)} {led : List (Addr × Obj)}

/-- into a def: what the ledger bears may change, all else of the heap is the ground -/
theorem enterM (F : Fr g L s.heap m) (N : News g L s.heap led) (X : K.In g) (T : Top p loose mean mg mb g)
    (ho : K.lookup f = some ⟨oc, od, .func (fnOf name qual params body scope dV kV doc pm an cdv ct), osl⟩) (hcd : codeIn K cdv qual = true) (hroom : A.depth < recursionLimit)
    (hbind : BindsTo s (fnOf name qual params body scope dV kV doc pm an cdv ct) args binds) (hloc : ∀ y ∈ binds, scope.names.lookup y.1 = some .local)
    (h : ∀ g' L' h₁, Fr g' L' h₁ (fun y => binds.reverse.lookup y) → News g' L' h₁ led → K.In g' → Top p loose mean mg mb g' →
      (∀ b o, s.heap.get? b = some o → b ∉ led.map (·.1) → g'.get? b = some o) →
      ∀ E' : Value → Shared → Prop, wpAny (model prog w) (A.deeper (envOf qual scope L' f cdv)) (execs body (envOf qual scope L' f cdv)) (Fin R) E' { s with heap := h₁, toks := s.toks + binds.length })
    (hco : scope.isCoroutine = false := by exact rfl) (hgen : scope.isGenerator = false := by exact rfl) (hk : scope.kind = .function := by exact rfl)
    (hcell : ∀ x ∈ scope.names, x.2 ≠ .cell := by decide) : codeAny (model prog w) A (.call (.ref f) args) R s := by
  have nm : ∀ b o, g.get? b = some o → b ∉ led.map (·.1) := fun b o e q => by
    obtain ⟨p, hp, rfl⟩ := List.mem_map.mp q
    rw [(N p hp).2.2] at e; cases e
  have st : ∀ b o, g.get? b = some o → (hideAll s.heap (led.map (·.1))).get? b = some o := fun b o e => hideAll_get _ (F.keep b o e) (nm b o e)
  refine codeAny_call_def (fd := fnOf name qual params body scope dV kV doc pm an cdv ct) (body := body) (binds := binds) hroom ((X.keeps F.keep) _ _ ho) rfl (T.nolimit.keeps F.keep) (codeRec_of (X.keeps F.keep) hcd) rfl hbind hcell hloc (fun h₁ hns hk₁ => ?_) hco hgen hk
  exact h _ s.heap.objs.size h₁ ⟨hns, fun b o e => hk₁ b o (of_hideAll _ e), Nat.le_of_eq (hideAll_size _ _)⟩
    (fun p hp => ⟨hk₁ _ _ (N p hp).1, Nat.ne_of_lt (Heap.lt_size (N p hp).1), hideAll_none _ (List.mem_map_of_mem hp)⟩) (X.keeps st) (T.keeps st) (fun b o e n => hideAll_get _ e n) _

/-- back out of it -/
theorem backM {g' : Heap} {L' : Addr} {h h' : Heap} {m' : Str → Option Value} {led' : List (Addr × Obj)} (F : Fr g L h m) (N : News g L h led)
    (hg : ∀ b o, h.get? b = some o → b ∉ led.map (·.1) → g'.get? b = some o) (F' : Fr g' L' h' m') (N' : News g' L' h' led') (ha : led'.map (·.1) = led.map (·.1)) :
    Fr g L h' m ∧ News g L h' led' ∧ Mod (led.map (·.1)) h h' := by
  have M : Mod (led.map (·.1)) h h' := fun b o n e => F'.keep b o (hg b o e n)
  have hnone : ∀ a ∈ led.map (·.1), g.get? a = none := fun a hm => by
    obtain ⟨p, hp, rfl⟩ := List.mem_map.mp hm
    exact (N p hp).2.2
  have hL : ∀ a ∈ led.map (·.1), a ≠ L := fun a hm => by
    obtain ⟨p, hp, rfl⟩ := List.mem_map.mp hm
    exact (N p hp).2.1
  refine ⟨fr_mod F M (fun q => hL _ q rfl) hnone, fun p hp => ⟨(N' p hp).1, hL _ ?_, hnone _ ?_⟩, M⟩
  · rw [← ha]; exact List.mem_map_of_mem hp
  · rw [← ha]; exact List.mem_map_of_mem hp
end

abbrev noPre : Heap → Prop := fun _ => True
/-- an object that is a dict of ints to ints, in this order -/
def DI (w : World) (o : Obj) (c : List (Int × Int)) : Prop := ∃ kvs, o.IsDictOf (intKind PG w) kvs ∧ FlatPairs PyData.int kvs (kdfD c)

structure CL where
  x : Addr
  dx : Addr
  ad : Addr
  az : Addr
  ai : Addr
  ak : Addr
  al : Addr
structure CO where
  es : List DictEntry
  n : Nat
  oD : Obj
  oZ : Obj
  oI : Obj
  vs : List Value
  nk : Nat
  us : List Value
  ns : Nat
abbrev CL.led (c : CL) (o : CO) : List (Addr × Obj) :=
  [(c.x, instObj 225 c.dx), (c.dx, dictOf o.es o.n), (c.ad, o.oD), (c.az, o.oZ), (c.ai, o.oI), (c.ak, listOf o.vs.toArray o.nk), (c.al, listOf o.us.toArray o.ns)]
abbrev CL.adr (c : CL) : List Addr := [c.x, c.dx, c.ad, c.az, c.ai, c.ak, c.al]
theorem led_adr (c : CL) (o : CO) : (c.led o).map (·.1) = c.adr := rfl

structure CS where
  sz : Bool
  room : Int
  fch : Addr
  pairs : List (Int × Int)
  ks : List Int
  ix : List (Int × Int)

def sizeOf (v : Int) : Int := v % 5 - 1
def roomOf (sz : Bool) (pairs : List (Int × Int)) : Int := (pairs.map fun p => if sz then sizeOf p.2 else 1).sum

/-- what the object's own dict says -/
structure OD (c : CL) (st : CS) (es : List DictEntry) : Prop where
  data : getL "_Cache__data" es = some (some (.ref c.ad))
  size : getL "_Cache__size" es = some (if st.sz then some (.ref c.az) else none)
  gets : getL "getsizeof" es = some (if st.sz then some (.ref 234) else none)
  cur : ∃ t, getL "_Cache__currsize" es = some (some (.int (roomOf st.sz st.pairs) t))
  max : ∃ t, getL "_Cache__maxsize" es = some (some (.int st.room t))
  choice : getL "_RRCache__choice" es = some (some (.ref st.fch))
  index : getL "_RRCache__index" es = some (some (.ref c.ai))
  keys : getL "_RRCache__keys" es = some (some (.ref c.ak))
  m1 : getL "popitem" es = some none
  m2 : getL "get" es = some none
  m3 : getL "pop" es = some none
  m4 : getL "setdefault" es = some none
  m5 : getL "clear" es = some none
  m6 : getL "__missing__" es = some none
  m7 : getL "_Cache__marker" es = some none
  short : es.length ≤ 20

structure CI (w : World) (c : CL) (o : CO) (st : CS) : Prop where
  nd : c.adr.Nodup
  od : OD c st o.es
  data : DI w o.oD st.pairs
  size : st.sz = true → DI w o.oZ (st.pairs.map fun p => (p.1, sizeOf p.2))
  idx : DI w o.oI st.ix
  keys : IntsAre o.vs st.ks
  lo1 : (c.ad == sysModules) = false
  lo2 : (c.az == sysModules) = false
  lo3 : (c.ai == sysModules) = false
end Mine

namespace Mine
section
variable {w : World} {A : Around} {E : Value → Shared → Prop} {s : Shared} {g : Heap} {L d : Addr} {m : Str → Option Value} {news : List (Addr × Obj)} {u : Obj → List (Addr × Obj)} {oD : Obj} {c : List (Int × Int)} {k e : Int} {t te : Tok}

theorem DI.tab (D : DI w oD c) (N : News g L s.heap news) (hm : (d, oD) ∈ news) (lo : (d == sysModules) = false) : IntTab PG w s.heap d (kdfD c) := let ⟨_, a, b⟩ := D; TabAt.ofNews N hm lo a b
theorem d_in {Q : Value → Shared → Prop} (N : News g L s.heap news) (hm : (d, oD) ∈ news) (lo : (d == sysModules) = false) (D : DI w oD c) (h : Q (.bool (kdfHas c k)) { s with toks := s.toks + 1 }) :
    wpAny (model PG w) A (compareOp .In (.int k t) (.ref d)) Q E s := kdf_in (D.tab N hm lo) h
theorem d_notin {Q : Value → Shared → Prop} (N : News g L s.heap news) (hm : (d, oD) ∈ news) (lo : (d == sysModules) = false) (D : DI w oD c) (h : Q (.bool (!kdfHas c k)) { s with toks := s.toks + 1 }) :
    wpAny (model PG w) A (compareOp .NotIn (.int k t) (.ref d)) Q E s := kdf_notin (D.tab N hm lo) h
theorem d_item {value slice : PySem.Expr} {Q : Value → Shared → Prop} (N : News g L s.heap news) (hm : (d, oD) ∈ news) (lo : (d == sysModules) = false) (D : DI w oD c) (hk : kdfHas c k = true) (h : ∀ t, Q (.int (kdfLook c k 0) t) { s with toks := s.toks + 1 })
    (hs : subscripted slice false (.ref d) (.int k t) = operate [.ref d, .int k t] (getItem (.ref d) (.int k t)) := by with_unfolding_all rfl) (hg : ∀ r, letTemporaryGo value (.ref d) r = pure () := by intro _; with_unfolding_all rfl) :
    wpAny (model PG w) A (subscriptTail value slice (.ref d) (.int k t)) Q E s := kdf_item (D.tab N hm lo) hk h hs hg
theorem d_len {Q : Value → Shared → Prop} (N : News g L s.heap news) (hm : (d, oD) ∈ news) (lo : (d == sysModules) = false) (D : DI w oD c) (hc : c.length ≤ 1000) (h : Q (.int (c.length : Nat) (s.toks + 1)) { s with toks := s.toks + 1 + 1 }) :
    wpAny (model PG w) A (call (.builtin "len") [.ref d]) Q E s := kdf_len (D.tab N hm lo) (by omega) h
theorem d_set {Q : Unit → Shared → Prop} (F : Fr g L s.heap m) (N : News g L s.heap news) (U : UpdF d oD news u) (D : DI w oD c) (hc : c.length ≤ 1000)
    (h : ∀ h' o', Fr g L h' m → News g L h' (u o') → DI w o' (kdfPut c k e) → Q () { s with heap := h', toks := s.toks + 1 }) :
    wpAny (model PG w) A (setItem (.ref d) (.int k t) (.int e te)) Q E s := by
  obtain ⟨kvs, a, b⟩ := D
  exact kdf_setItem F N U a b (by omega) fun h' o' kvs' F' N' a' b' => h h' o' F' N' ⟨kvs', a', b'⟩

/-- a dict without a key -/
def delI (c : List (Int × Int)) (k : Int) : List (Int × Int) := c.filter fun p => decide (p.1 ≠ k)
theorem kdfD_del (c : List (Int × Int)) (k : Int) : delD (PyData.int k) (kdfD c) = kdfD (delI c k) := by
  induction c with
  | nil => rfl
  | cons p c ih =>
    unfold delD kdfD delI at *
    simp only [List.map_cons, List.filter_cons]
    rw [ih, same_int]
    by_cases hp : p.1 = k <;> simp [hp]
theorem d_del {Q : Unit → Shared → Prop} (F : Fr g L s.heap m) (N : News g L s.heap news) (U : UpdF d oD news u) (D : DI w oD c) (hk : kdfHas c k = true) (hc : c.length ≤ 1000)
    (h : ∀ h' o', Fr g L h' m → News g L h' (u o') → DI w o' (delI c k) → Q () { s with heap := h', toks := s.toks + 1 }) :
    wpAny (model PG w) A (delItem (.ref d) (.int k t)) Q E s := by
  obtain ⟨kvs, a, b⟩ := D
  obtain ⟨pre, post, rfl, hg, h1, h2⟩ := U.split
  exact delItem_madeIn same_int (intKind_is _ _ _ _) F N h1 h2 a b (by rw [kdfD_isSome]; exact hk) (fun h' o' F' N' a' b' => h h' o' F' (hg o' ▸ N') ⟨_, a', kdfD_del c k ▸ b'⟩) (by rw [kdfD_length, sizeLine_eq]; omega)
theorem d_pop {Q : Value → Shared → Prop} (F : Fr g L s.heap m) (N : News g L s.heap news) (U : UpdF d oD news u) (D : DI w oD c) (hk : kdfHas c k = true) (hc : c.length ≤ 1000)
    (h : ∀ h' o' t', Fr g L h' m → News g L h' (u o') → DI w o' (delI c k) → Q (.int (kdfLook c k 0) t') { s with heap := h', toks := s.toks + 1 }) :
    wpAny (model PG w) A (call (.builtin "dict.pop") [.ref d, .int k t]) Q E s := by
  obtain ⟨kvs, a, b⟩ := D
  obtain ⟨pre, post, rfl, hg, h1, h2⟩ := U.split
  refine call_pop_madeIn (more := []) same_int (intKind_is _ _ _ _) (.inl rfl) rfl (PySem.F.args_dict_pop_2 _ _) F N h1 h2 a b (kdfD_item hk) (fun h' o' v hv F' N' a' b' => ?_) (by rw [kdfD_length, sizeLine_eq]; omega)
  obtain ⟨t', rfl⟩ := Flat.int_inv hv
  exact h h' o' t' F' (hg o' ▸ N') ⟨_, a', kdfD_del c k ▸ b'⟩
theorem FlatPairs.len {kvs : List (Int × Value)} {D : List (PyData × PyData)} (h : FlatPairs PyData.int kvs D) : kvs.length = D.length := h.length.symm
theorem d_clear {Q : Value → Shared → Prop} (F : Fr g L s.heap m) (N : News g L s.heap news) (U : UpdF d oD news u) (D : DI w oD c) (hc : c.length ≤ 1000)
    (h : ∀ h' o', Fr g L h' m → News g L h' (u o') → DI w o' [] → Q .none { s with heap := h' }) :
    wpAny (model PG w) A (call (.builtin "dict.clear") [.ref d]) Q E s := by
  obtain ⟨kvs, a, b⟩ := D
  obtain ⟨pre, post, rfl, hg, h1, h2⟩ := U.split
  exact call_clear_madeIn F N h1 h2 a (fun h' o' F' N' a' b' => h h' o' F' (hg o' ▸ N') ⟨_, a', b'⟩) (by have := b.length; rw [kdfD_length] at this; rw [sizeLine_eq]; omega)
end
end Mine

namespace Mine
theorem nd7 {x dx ad az ai ak al : Addr} (h : [x, dx, ad, az, ai, ak, al].Nodup) :
    (x ≠ dx ∧ x ≠ ad ∧ x ≠ az ∧ x ≠ ai ∧ x ≠ ak ∧ x ≠ al) ∧ (dx ≠ ad ∧ dx ≠ az ∧ dx ≠ ai ∧ dx ≠ ak ∧ dx ≠ al) ∧ (ad ≠ az ∧ ad ≠ ai ∧ ad ≠ ak ∧ ad ≠ al) ∧ (az ≠ ai ∧ az ≠ ak ∧ az ≠ al) ∧ (ai ≠ ak ∧ ai ≠ al) ∧ ak ≠ al := by
  simp only [List.nodup_cons, List.mem_cons, List.not_mem_nil, or_false, not_or, not_false_eq_true, and_true] at h
  obtain ⟨⟨a1, a2, a3, a4, a5, a6⟩, ⟨b1, b2, b3, b4, b5⟩, ⟨c1, c2, c3, c4⟩, ⟨d1, d2, d3⟩, ⟨e1, e2⟩, f1, _⟩ := h
  exact ⟨⟨a1, a2, a3, a4, a5, a6⟩, ⟨b1, b2, b3, b4, b5⟩, ⟨c1, c2, c3, c4⟩, ⟨d1, d2, d3⟩, ⟨e1, e2⟩, f1⟩
end Mine

namespace Mine
/-- what a method of the cache does, whoever calls it -/
def Spec (w : World) (d : Nat) (f : Addr) (args : List Value) (c : CL) (o : CO) (Pre : Heap → Prop) (P : Heap → Heap → Value → CO → Prop) : Prop :=
  ∀ (A : Around) (s : Shared) (g : Heap) (L : Addr) (m : Str → Option Value) (R : Result → Shared → Prop) (p : Program) (loose : List Str) (mean : ExcName → Option Value) (mg mb : Str → Option Value),
    Fr g L s.heap m → News g L s.heap (c.led o) → (KK w.params).In g → Top p loose mean mg mb g → A.depth + d < recursionLimit → A.units + 20 * d < cLine → A.handled = none → Pre s.heap →
    (∀ h' tk v o', P s.heap h' v o' → Fr g L h' m → News g L h' (c.led o') → Mod c.adr s.heap h' → R (.ok (.ret v)) { s with heap := h', toks := tk }) →
    codeAny (model PG w) A (.call (.ref f) ⟨args, []⟩) R s

theorem Spec.use {w : World} {d : Nat} {f : Addr} {args : List Value} {c : CL} {o : CO} {Pre : Heap → Prop} {P : Heap → Heap → Value → CO → Prop} (S : Spec w d f args c o Pre P)
    {A : Around} {s : Shared} {g : Heap} {L : Addr} {m : Str → Option Value} {p : Program} {loose : List Str} {mean : ExcName → Option Value} {mg mb : Str → Option Value} {Q E : Value → Shared → Prop}
    (F : Fr g L s.heap m) (N : News g L s.heap (c.led o)) (X : (KK w.params).In g) (T : Top p loose mean mg mb g) (hd' : A.depth + d < recursionLimit) (hu : A.units + 20 * d < cLine) (hh : A.handled = none) (hpre : Pre s.heap)
    (h : ∀ h' tk v o', P s.heap h' v o' → Fr g L h' m → News g L h' (c.led o') → Mod c.adr s.heap h' → Q v { s with heap := h', toks := tk }) :
    wpAny (model PG w) A (call (.ref f) args) Q E s := wpAny_call (S A s g L m _ p loose mean mg mb F N X T hd' hu hh hpre h)
end Mine

namespace Mine
section
variable {w : World} {A : Around} {E : Value → Shared → Prop} {s : Shared} {g : Heap} {L d : Addr} {m : Str → Option Value} {news : List (Addr × Obj)} {oD : Obj} {c : List (Int × Int)}
theorem d_meth {name : Str} {id : String} {pl : Sem Bool} {Q : Value × List Value → Shared → Prop} (hid : dictMethodId name = some id) (N : News g L s.heap news) (hm : (d, oD) ∈ news) (lo : (d == sysModules) = false) (D : DI w oD c)
    (h : Q (.builtin id, [.ref d]) s) : wpAny (model PG w) A (getMethod (.ref d) name pl) Q E s := getMethod_tab_any hid (D.tab N hm lo) h
end
end Mine

namespace Mine
theorem getL_putL {nm y : Str} {hsh : Int} {key v : Value} : ∀ {es : List DictEntry}, (∃ v₀, getL nm es = some (some v₀)) → getL y (putL nm hsh key v es) = (if y = nm then some (some v) else getL y es) ∧ (putL nm hsh key v es).length = es.length
  | [], ⟨v₀, h⟩ => by simp [getL] at h
  | e :: r, ⟨v₀, h⟩ => by
    unfold putL
    by_cases he : e.key.isStr nm = true
    · rw [if_pos he]
      refine ⟨?_, by simp⟩
      by_cases hy : y = nm
      · subst hy; simp [getL, he]
      · rw [if_neg hy]
        have hn : e.key.isStr y = false := by
          cases q : e.key.isStr y with
          | false => rfl
          | true => exact absurd (Value.isStr_inj _ _ _ q he) hy
        simp [getL, List.find?_cons, hn, List.any_cons, DictEntry.refKey]
    · have he' : e.key.isStr nm = false := by simpa using he
      rw [if_neg he]
      have h' : (∃ v₀, getL nm r = some (some v₀)) := by
        simp only [getL, List.find?_cons, he'] at h
        refine ⟨v₀, ?_⟩
        unfold getL
        cases q : r.find? (fun x => x.key.isStr nm) with
        | some e' => simp only [q] at h ⊢; exact h
        | none =>
          simp only [q] at h ⊢
          split at h <;> simp at h
      have ih := getL_putL (nm := nm) (y := y) (hsh := hsh) (key := key) (v := v) h'
      refine ⟨?_, by simp [ih.2]⟩
      have ih1 := ih.1
      have hany : (putL nm hsh key v r).any (·.refKey) = r.any (·.refKey) := by
        have : ∀ r : List DictEntry, (∃ v₀, getL nm r = some (some v₀)) → (putL nm hsh key v r).any (·.refKey) = r.any (·.refKey) := by
          intro r
          induction r with
          | nil => rintro ⟨v₀, h⟩; simp [getL] at h
          | cons e r ih =>
            rintro ⟨v₀, h⟩
            unfold putL
            by_cases he : e.key.isStr nm = true
            · rw [if_pos he]; simp [DictEntry.refKey]
            · have he' : e.key.isStr nm = false := by simpa using he
              rw [if_neg he]
              simp only [List.any_cons]
              rw [ih]
              simp only [getL, List.find?_cons, he'] at h
              refine ⟨v₀, ?_⟩
              unfold getL
              cases q : r.find? (fun x => x.key.isStr nm) with
              | some e' => simp only [q] at h ⊢; exact h
              | none => simp only [q] at h ⊢; split at h <;> simp at h
        exact this r h'
      by_cases hy : y = nm
      · subst hy
        rw [if_pos rfl] at ih1 ⊢
        simp only [getL, List.find?_cons, he'] at ih1 ⊢
        cases q : (putL y hsh key v r).find? (fun x => x.key.isStr y) with
        | some e' => simp only [q] at ih1 ⊢; exact ih1
        | none => simp only [q] at ih1; split at ih1 <;> simp at ih1
      · rw [if_neg hy] at ih1 ⊢
        simp only [getL, List.find?_cons, List.any_cons, hany] at ih1 ⊢
        cases q0 : e.key.isStr y with
        | true => rfl
        | false =>
          simp only
          cases q : (putL nm hsh key v r).find? (fun x => x.key.isStr y) with
          | some e' =>
            cases q2 : r.find? (fun x => x.key.isStr y) with
            | some e2 => simp only [q, q2] at ih1 ⊢; exact ih1
            | none => simp only [q, q2] at ih1; split at ih1 <;> simp at ih1
          | none =>
            cases q2 : r.find? (fun x => x.key.isStr y) with
            | some e2 => simp only [q, q2] at ih1; split at ih1 <;> simp at ih1
            | none => rfl

section
variable {w : World} {A : Around} {E : Value → Shared → Prop} {s : Shared} {g : Heap} {L x dx : Addr} {m : Str → Option Value} {news : List (Addr × Obj)} {u : Obj → List (Addr × Obj)} {es : List DictEntry} {n : Nat} {v v₀ : Value} {nm : Str}
theorem updF_upd {d : Addr} {o : Obj} : ∀ {l : List (Addr × Obj)} {u : Obj → List (Addr × Obj)}, UpdF d o l u → ∀ o', Upd d o o' l (u o')
  | _, _, .head h, _ => .head h
  | _, _, .tail h r, o' => .tail h (updF_upd r o')
theorem set_own {Q : Unit → Shared → Prop} (F : Fr g L s.heap m) (X : (KK w.params).In g) (N : News g L s.heap news) (hx : (x, instObj 225 dx) ∈ news) (hdx : (dx, dictOf es n) ∈ news) (U : UpdF dx (dictOf es n) news u)
    (hl : getL nm es = some (some v₀)) (hes : es.length ≤ 20) (ht : takerIn (KK w.params) 225 nm = some none)
    (hs : findIn (KK w.params) (.ref 225) "__setattr__" = some (some (.builtin "object.__setattr__"))) (hp : plainOver (KK w.params) 225 = true) (hh : hasDictIn (KK w.params) 225 = true)
    (h : ∀ h' es' n', Fr g L h' m → News g L h' (u (dictOf es' n')) → (∀ y, getL y es' = if y = nm then some (some v) else getL y es) → es'.length ≤ 20 → Q () { s with heap := h', toks := s.toks + 2 }) :
    wpAny (model PG w) A (setAttr (.ref x) nm v) Q E s :=
  set_dict F X N (InstAt.of_news N hx hdx) rfl hs hp ht hh (by rw [hl]; rfl) rfl (updF_upd U _) (Nat.le_trans (Nat.le_of_eq (getL_putL (y := nm) ⟨_, hl⟩).2) (by omega))
    fun h' F' N' => h h' _ _ F' N' (fun y => (getL_putL ⟨_, hl⟩).1) (Nat.le_trans (Nat.le_of_eq (getL_putL (y := nm) ⟨_, hl⟩).2) hes)
end
theorem OD.put {c : CL} {st st' : CS} {es es' : List DictEntry} {i : Int} {t : Tok} (O : OD c st es) (hp : ∀ y, getL y es' = if y = (Str.ofString "_Cache__currsize") then some (some (.int i t)) else getL y es) (hes : es'.length ≤ 20)
    (hi : i = roomOf st'.sz st'.pairs) (h1 : st'.sz = st.sz) (h2 : st'.room = st.room) (h3 : st'.fch = st.fch) : OD c st' es' where
  data := by rw [hp, if_neg (by decide)]; exact O.data
  size := by rw [hp, if_neg (by decide), h1]; exact O.size
  gets := by rw [hp, if_neg (by decide), h1]; exact O.gets
  cur := ⟨t, by rw [hp, if_pos rfl, hi]⟩
  max := by rw [hp, if_neg (by decide), h2]; exact O.max
  choice := by rw [hp, if_neg (by decide), h3]; exact O.choice
  index := by rw [hp, if_neg (by decide)]; exact O.index
  keys := by rw [hp, if_neg (by decide)]; exact O.keys
  m1 := by rw [hp, if_neg (by decide)]; exact O.m1
  m2 := by rw [hp, if_neg (by decide)]; exact O.m2
  m3 := by rw [hp, if_neg (by decide)]; exact O.m3
  m4 := by rw [hp, if_neg (by decide)]; exact O.m4
  m5 := by rw [hp, if_neg (by decide)]; exact O.m5
  m6 := by rw [hp, if_neg (by decide)]; exact O.m6
  m7 := by rw [hp, if_neg (by decide)]; exact O.m7
  short := hes
end Mine
end
section
open PySem PySem.W PySem.Calls PyProof.Rows PyProof.V PySem.Spec
namespace Mine
theorem has_map (f : Int → Int) (k : Int) : ∀ c : List (Int × Int), kdfHas (c.map fun p => (p.1, f p.2)) k = kdfHas c k
  | [] => rfl
  | p :: c => by
    have ih := has_map f k c
    unfold kdfHas at *
    simp only [List.map_cons, List.any_cons, ih]
theorem has_iff {c : List (Int × Int)} {k : Int} : kdfHas c k = true ↔ k ∈ c.map (·.1) := by
  unfold kdfHas
  rw [List.any_eq_true, List.mem_map]
  exact ⟨fun ⟨p, hp, e⟩ => ⟨p, hp, of_decide_eq_true e⟩, fun ⟨p, hp, e⟩ => ⟨p, hp, decide_eq_true e⟩⟩
theorem look_map (f : Int → Int) (k : Int) : ∀ c : List (Int × Int), kdfHas c k = true → kdfLook (c.map fun p => (p.1, f p.2)) k 0 = f (kdfLook c k 0)
  | [], h => by simp [kdfHas] at h
  | p :: c, h => by
    have ih := look_map f k c
    unfold kdfLook kdfHas at *
    simp only [List.map_cons, List.find?_cons, List.any_cons, Bool.or_eq_true, decide_eq_true_eq] at *
    by_cases hp : p.1 = k
    · simp [hp]
    · simp only [hp, decide_false]
      exact ih (by simpa [hp] using h)
theorem del_map (f : Int → Int) (k : Int) (c : List (Int × Int)) : delI (c.map fun p => (p.1, f p.2)) k = (delI c k).map fun p => (p.1, f p.2) := by
  unfold delI; rw [List.filter_map]; rfl
theorem put_map (f : Int → Int) (k v : Int) (c : List (Int × Int)) : kdfPut (c.map fun p => (p.1, f p.2)) k (f v) = (kdfPut c k v).map fun p => (p.1, f p.2) := by
  have h := has_map f k c
  unfold kdfHas at h
  unfold kdfPut
  rw [h]
  split
  · rw [List.map_map, List.map_map]
    refine List.map_congr_left fun p _ => ?_
    simp only [Function.comp]
    by_cases hp : p.1 = k <;> simp [hp]
  · rw [List.map_append]; rfl
theorem del_off {c : List (Int × Int)} {k : Int} (h : kdfHas c k = false) : delI c k = c := by
  unfold delI
  refine List.filter_eq_self.mpr fun p hp => ?_
  have : ¬ kdfHas c k = true := by rw [h]; decide
  rw [has_iff] at this
  exact decide_eq_true fun e => this (List.mem_map.mpr ⟨p, hp, e⟩)
theorem del_keys (c : List (Int × Int)) (k : Int) : (delI c k).map (·.1) = (c.map (·.1)).filter fun x => decide (x ≠ k) := by
  unfold delI; rw [List.filter_map]; rfl
theorem put_keys_in {c : List (Int × Int)} {k v : Int} (h : kdfHas c k = true) : (kdfPut c k v).map (·.1) = c.map (·.1) := by
  unfold kdfHas at h
  unfold kdfPut
  rw [if_pos h, List.map_map]
  refine List.map_congr_left fun p _ => ?_
  simp only [Function.comp]
  split <;> rfl
theorem put_off {c : List (Int × Int)} {k v : Int} (h : kdfHas c k = false) : kdfPut c k v = c ++ [(k, v)] := by
  unfold kdfHas at h
  unfold kdfPut
  rw [if_neg (by rw [h]; decide)]
theorem has_del_other {c : List (Int × Int)} {k j : Int} (h : j ≠ k) : kdfHas (delI c k) j = kdfHas c j := by
  rw [Bool.eq_iff_iff, has_iff, has_iff, del_keys, List.mem_filter]
  exact ⟨fun x => x.1, fun x => ⟨x, decide_eq_true h⟩⟩
theorem has_del_self {c : List (Int × Int)} {k : Int} : kdfHas (delI c k) k = false := by
  rw [Bool.eq_false_iff, ne_eq, has_iff, del_keys, List.mem_filter]
  exact fun x => by simpa using x.2

theorem room_cons (sz : Bool) (p : Int × Int) (c : List (Int × Int)) : roomOf sz (p :: c) = (if sz then sizeOf p.2 else 1) + roomOf sz c := rfl
theorem room_append (sz : Bool) (c d : List (Int × Int)) : roomOf sz (c ++ d) = roomOf sz c + roomOf sz d := by
  unfold roomOf; rw [List.map_append, List.sum_append_int]
theorem room_del (sz : Bool) {k : Int} : ∀ {c : List (Int × Int)}, (c.map (·.1)).Nodup → kdfHas c k = true → roomOf sz (delI c k) = roomOf sz c - (if sz then sizeOf (kdfLook c k 0) else 1)
  | [], _, h => by simp [kdfHas] at h
  | p :: c, hn, h => by
    rw [List.map_cons, List.nodup_cons] at hn
    by_cases hp : p.1 = k
    · have hoff : kdfHas c k = false := by rw [Bool.eq_false_iff, ne_eq, has_iff, ← hp]; exact hn.1
      have e1 : delI (p :: c) k = c := by
        unfold delI; rw [List.filter_cons, if_neg (by simp [hp])]; exact del_off hoff
      have e2 : kdfLook (p :: c) k 0 = p.2 := by unfold kdfLook; simp [List.find?_cons, hp]
      rw [e1, e2, room_cons]; omega
    · have h' : kdfHas c k = true := by unfold kdfHas at *; simpa [hp] using h
      have e1 : delI (p :: c) k = p :: delI c k := by unfold delI; rw [List.filter_cons, if_pos (by simp [hp])]
      have e2 : kdfLook (p :: c) k 0 = kdfLook c k 0 := by unfold kdfLook; simp [List.find?_cons, hp]
      rw [e1, e2, room_cons, room_cons, room_del sz hn.2 h']; omega
theorem room_put_in (sz : Bool) {k v : Int} : ∀ {c : List (Int × Int)}, (c.map (·.1)).Nodup → kdfHas c k = true → roomOf sz (kdfPut c k v) = roomOf sz (delI c k) + (if sz then sizeOf v else 1)
  | [], _, h => by simp [kdfHas] at h
  | p :: c, hn, h => by
    rw [List.map_cons, List.nodup_cons] at hn
    by_cases hp : p.1 = k
    · have hoff : kdfHas c k = false := by rw [Bool.eq_false_iff, ne_eq, has_iff, ← hp]; exact hn.1
      have e1 : delI (p :: c) k = c := by
        unfold delI; rw [List.filter_cons, if_neg (by simp [hp])]; exact del_off hoff
      have hm : (c.map fun q : Int × Int => if decide (q.1 = k) = true then (q.1, v) else q) = c := by
        have : ¬ k ∈ c.map (·.1) := by rw [← has_iff, hoff]; decide
        conv => rhs; rw [← List.map_id c]
        refine List.map_congr_left fun q hq => ?_
        rw [if_neg (by simp only [decide_eq_true_eq]; exact fun e => this (List.mem_map.mpr ⟨q, hq, e⟩))]; rfl
      have e2 : kdfPut (p :: c) k v = (p.1, v) :: c := by
        unfold kdfPut
        rw [if_pos (by unfold kdfHas at h; exact h), List.map_cons, hm, if_pos (by simp [hp])]
      rw [e1, e2, room_cons]; dsimp only; omega
    · have h' : kdfHas c k = true := by unfold kdfHas at *; simpa [hp] using h
      have e1 : delI (p :: c) k = p :: delI c k := by unfold delI; rw [List.filter_cons, if_pos (by simp [hp])]
      have e2 : kdfPut (p :: c) k v = p :: kdfPut c k v := by
        unfold kdfPut
        unfold kdfHas at h h'
        rw [if_pos h, if_pos h', List.map_cons, if_neg (by simp [hp])]
      rw [e1, e2, room_cons, room_cons, room_put_in sz hn.2 h']; omega
theorem room_put_off (sz : Bool) {k v : Int} {c : List (Int × Int)} (h : kdfHas c k = false) : roomOf sz (kdfPut c k v) = roomOf sz c + (if sz then sizeOf v else 1) := by
  rw [put_off h, room_append]; unfold roomOf; simp
theorem room_unsized (c : List (Int × Int)) : roomOf false c = (c.length : Int) := by
  induction c with
  | nil => rfl
  | cons p c ih => rw [room_cons, ih, List.length_cons]; simp; omega

/-- a list of unlike numbers of 0 .. 4 is short -/
theorem short5 {l : List Int} (hn : l.Nodup) (hr : ∀ x ∈ l, 0 ≤ x ∧ x < 5) : l.length ≤ 5 := by
  have key : ∀ (n : Nat) (l : List Int), l.Nodup → (∀ x ∈ l, 0 ≤ x ∧ x < (n : Int)) → l.length ≤ n := by
    intro n
    induction n with
    | zero =>
      intro l _ hr
      cases l with
      | nil => exact Nat.le_refl _
      | cons a r => have := hr a (List.mem_cons_self ..); omega
    | succ n ih =>
      intro l hn hr
      have h1 : (l.erase (n : Int)).length ≤ n := ih _ (hn.erase _) fun x hx => by
        have hx' := hr x (List.mem_of_mem_erase hx)
        have hne : x ≠ (n : Int) := fun e => by rw [e] at hx; exact (List.Nodup.mem_erase_iff hn).mp hx |>.1 rfl
        omega
      by_cases hm : (n : Int) ∈ l
      · rw [List.length_erase_of_mem hm] at h1; omega
      · rw [List.erase_of_not_mem hm] at h1; omega
  exact key 5 l hn hr
end Mine
end
section
open PySem PySem.W PySem.Calls PyProof.Rows PyProof.V PySem.Spec
namespace Mine
theorem look_cons (p : Int × Int) (c : List (Int × Int)) (k d : Int) : kdfLook (p :: c) k d = if p.1 = k then p.2 else kdfLook c k d := by
  unfold kdfLook
  rw [List.find?_cons]
  by_cases h : p.1 = k <;> simp [h]
theorem look_del {k j d : Int} (h : j ≠ k) : ∀ c : List (Int × Int), kdfLook (delI c k) j d = kdfLook c j d
  | [] => rfl
  | p :: c => by
    have ih := look_del (d := d) h c
    unfold delI at *
    rw [List.filter_cons]
    by_cases hp : p.1 = k
    · rw [if_neg (by simp [hp]), ih, look_cons, if_neg (by rw [hp]; exact fun e => h e.symm)]
    · rw [if_pos (by simp [hp]), look_cons, look_cons, ih]
theorem look_map_put {k v j d : Int} : ∀ c : List (Int × Int), kdfLook (c.map fun p => if decide (p.1 = k) then (p.1, v) else p) j d = if j = k ∧ kdfHas c k = true then v else kdfLook c j d
  | [] => by simp [kdfLook, kdfHas]
  | p :: c => by
    have ih := look_map_put (k := k) (v := v) (j := j) (d := d) c
    have hh : kdfHas (p :: c) k = (decide (p.1 = k) || kdfHas c k) := rfl
    rw [List.map_cons, look_cons, look_cons, ih, hh]
    by_cases hp : p.1 = k
    · by_cases hj : j = k
      · subst hj; simp [hp]
      · have : ¬ p.1 = j := fun e => hj (e.symm.trans hp)
        have : ¬ k = j := fun e => hj e.symm
        simp [hp, hj, this]
    · simp [hp]
      by_cases hj : p.1 = j
      · have : ¬ j = k := fun e => hp (hj.trans e)
        simp [hj, this]
      · simp [hj]
theorem look_append {j d : Int} {k v : Int} : ∀ c : List (Int × Int), kdfLook (c ++ [(k, v)]) j d = if kdfHas c j = true then kdfLook c j d else if k = j then v else d
  | [] => by simp [kdfLook, kdfHas]; by_cases h : k = j <;> simp [h]
  | p :: c => by
    have hh : kdfHas (p :: c) j = (decide (p.1 = j) || kdfHas c j) := rfl
    rw [List.cons_append, look_cons, look_append c, look_cons, hh]
    by_cases hp : p.1 = j <;> simp [hp]
theorem look_put {k v j d : Int} (c : List (Int × Int)) : kdfLook (kdfPut c k v) j d = if j = k then v else kdfLook c j d := by
  unfold kdfPut
  by_cases h : (c.any fun p => decide (p.1 = k)) = true
  · rw [if_pos h, look_map_put]
    have : kdfHas c k = true := h
    simp [this]
  · rw [if_neg h, look_append]
    have h0 : kdfHas c k = false := Bool.eq_false_iff.mpr h
    by_cases hj : j = k
    · subst hj; simp [h0]
    · have hk : ¬ k = j := fun e => hj e.symm
      simp only [hj, hk, if_false]
      split
      · rfl
      · rename_i hn
        have : c.find? (fun p => decide (p.1 = j)) = none := by
          rw [List.find?_eq_none]
          intro p hp hq
          exact hn (List.any_eq_true.mpr ⟨p, hp, hq⟩)
        unfold kdfLook; rw [this]; rfl
theorem has_put {k v j : Int} (c : List (Int × Int)) : kdfHas (kdfPut c k v) j = true ↔ j = k ∨ kdfHas c j = true := by
  rw [has_iff, has_iff]
  cases h : kdfHas c k with
  | true =>
    rw [put_keys_in h]
    exact ⟨.inr, fun x => x.elim (fun e => e ▸ has_iff.mp h) id⟩
  | false =>
    rw [put_off h, List.map_append, List.mem_append]
    simp only [List.map_cons, List.map_nil, List.mem_singleton]
    exact ⟨Or.symm, Or.symm⟩

theorem nodup_filter {α : Type} (q : α → Bool) {l : List α} (h : l.Nodup) : (l.filter q).Nodup := List.Sublist.nodup List.filter_sublist h
theorem del_nodup {c : List (Int × Int)} {k : Int} (h : (c.map (·.1)).Nodup) : ((delI c k).map (·.1)).Nodup := by rw [del_keys]; exact nodup_filter _ h
theorem put_nodup {c : List (Int × Int)} {k v : Int} (h : (c.map (·.1)).Nodup) : ((kdfPut c k v).map (·.1)).Nodup := by
  cases hk : kdfHas c k with
  | true => rw [put_keys_in hk]; exact h
  | false =>
    rw [put_off hk, List.map_append, List.nodup_append]
    refine ⟨h, by simp, fun a ha b hb => ?_⟩
    simp only [List.map_cons, List.map_nil, List.mem_singleton] at hb
    rw [hb]
    intro e
    rw [e] at ha
    have := has_iff.mpr ha
    rw [hk] at this; cases this

/-- the index over the keys in their hidden order -/
structure WfK (names ks : List Int) (ix : List (Int × Int)) : Prop where
  nd : names.Nodup
  perm : ks.Perm names
  ixn : (ix.map (·.1)).Nodup
  has : ∀ k, kdfHas ix k = true ↔ k ∈ ks
  at_ : ∀ k ∈ ks, 0 ≤ kdfLook ix k 0 ∧ ks[(kdfLook ix k 0).toNat]? = some k
theorem WfK.knd {names ks : List Int} {ix : List (Int × Int)} (W : WfK names ks ix) : ks.Nodup := W.perm.nodup_iff.mpr W.nd
theorem WfK.nil : WfK [] [] [] := ⟨List.nodup_nil, List.Perm.nil, List.nodup_nil, fun k => by simp [kdfHas], fun k hk => nomatch hk⟩
theorem WfK.lt {names ks : List Int} {ix : List (Int × Int)} (W : WfK names ks ix) {k : Int} (hk : k ∈ ks) : (kdfLook ix k 0).toNat < ks.length := by
  obtain ⟨_, h⟩ := W.at_ k hk
  exact (List.getElem?_eq_some_iff.mp h).1

def delK (ks : List Int) (i : Nat) : List Int := (ks.set i (ks.getD (ks.length - 1) 0)).take (ks.length - 1)
def delX (ks : List Int) (ix : List (Int × Int)) (k : Int) : List (Int × Int) :=
  if kdfLook ix k 0 ≠ (ks.length : Int) - 1 then kdfPut (delI ix k) (ks.getD (ks.length - 1) 0) (kdfLook ix k 0) else delI ix k

theorem delK_get (ks : List Int) (i j : Nat) : (delK ks i)[j]? = if j < ks.length - 1 then (if i = j then some (ks.getD (ks.length - 1) 0) else ks[j]?) else none := by
  unfold delK
  rw [List.getElem?_take, List.getElem?_set]
  split
  · split
    · rw [if_pos (by omega)]
    · rfl
  · rfl

theorem inj_of_nodup {l : List Int} (h : l.Nodup) {i j : Nat} {x : Int} (hi : l[i]? = some x) (hj : l[j]? = some x) : i = j :=
  (List.getElem?_inj (List.getElem?_eq_some_iff.mp hi).1 h).mp (hi.trans hj.symm)

theorem nodup_of_inj : ∀ {l : List Int}, (∀ (i j : Nat) (x : Int), l[i]? = some x → l[j]? = some x → i = j) → l.Nodup
  | [], _ => List.nodup_nil
  | a :: l, h => by
    rw [List.nodup_cons]
    refine ⟨fun hm => ?_, nodup_of_inj fun i j x hi hj => ?_⟩
    · obtain ⟨i, hi⟩ := List.mem_iff_getElem?.mp hm
      have := h 0 (i + 1) a rfl (by simpa using hi)
      omega
    · have := h (i + 1) (j + 1) x (by simpa using hi) (by simpa using hj)
      omega

theorem WfK.del {names ks : List Int} {ix : List (Int × Int)} (W : WfK names ks ix) {k : Int} (hk : k ∈ names) :
    WfK (names.filter fun x => decide (x ≠ k)) (delK ks (kdfLook ix k 0).toNat) (delX ks ix k) := by
  have hkk : k ∈ ks := W.perm.mem_iff.mpr hk
  obtain ⟨h0, hi⟩ := W.at_ k hkk
  have hlt := W.lt hkk
  have knd := W.knd
  generalize hI : kdfLook ix k 0 = I at *
  have hn : 0 < ks.length := by omega
  obtain ⟨last, hl⟩ : ∃ last, ks[ks.length - 1]? = some last := ⟨ks[ks.length - 1], by simp⟩
  have hlD : ks.getD (ks.length - 1) 0 = last := by rw [List.getD_eq_getElem?_getD, hl]; rfl
  have get := delK_get ks I.toNat
  rw [hlD] at get
  -- members of the new list
  have mem : ∀ x, x ∈ delK ks I.toNat ↔ x ∈ ks ∧ x ≠ k := by
    intro x
    rw [List.mem_iff_getElem?]
    constructor
    · rintro ⟨j, hj⟩
      rw [get] at hj
      split at hj
      · rename_i hjl
        split at hj
        · rename_i e
          cases hj
          refine ⟨List.mem_of_getElem? hl, fun e2 => ?_⟩
          rw [e2] at hl
          have := inj_of_nodup knd hl hi
          omega
        · rename_i e
          refine ⟨List.mem_of_getElem? hj, fun e2 => ?_⟩
          rw [e2] at hj
          exact e (inj_of_nodup knd hi hj)
      · cases hj
    · rintro ⟨hx, hne⟩
      obtain ⟨j, hj⟩ := List.mem_iff_getElem?.mp hx
      have hjl := (List.getElem?_eq_some_iff.mp hj).1
      have hji : I.toNat ≠ j := fun e => by rw [e] at hi; rw [hi] at hj; cases hj; exact hne rfl
      by_cases e : j = ks.length - 1
      · refine ⟨I.toNat, ?_⟩
        rw [get, if_pos (by omega), if_pos rfl]
        rw [e, hl] at hj; exact hj
      · refine ⟨j, ?_⟩
        rw [get, if_pos (by omega), if_neg hji]; exact hj
  have nd' : (delK ks I.toNat).Nodup := by
    refine nodup_of_inj fun a b x ha hb => ?_
    rw [get] at ha hb
    split at ha
    · split at hb
      · split at ha <;> split at hb
        · omega
        · cases ha
          have := inj_of_nodup knd hl hb
          omega
        · cases hb
          have := inj_of_nodup knd hl ha
          omega
        · exact inj_of_nodup knd ha hb
      · cases hb
    · cases ha
  have nd0 : (names.filter fun x => decide (x ≠ k)).Nodup := nodup_filter _ W.nd
  have hX : delX ks ix k = if I ≠ (ks.length : Int) - 1 then kdfPut (delI ix k) last I else delI ix k := by unfold delX; rw [hI, hlD]
  have hlast : I ≠ (ks.length : Int) - 1 → last ≠ k := fun hne e => by
    rw [e] at hl
    have := inj_of_nodup knd hl hi
    omega
  have hdel : ∀ j, kdfHas (delI ix k) j = true ↔ j ∈ ks ∧ j ≠ k := fun j => by
    by_cases e : j = k
    · subst e
      rw [has_del_self]
      exact ⟨fun h => (nomatch h), fun h => absurd rfl h.2⟩
    · rw [has_del_other e, W.has]
      exact ⟨fun h => ⟨h, e⟩, fun h => h.1⟩
  refine ⟨nd0, (List.perm_ext_iff_of_nodup nd' nd0).mpr fun x => ?_, ?_, fun j => ?_, fun j hj => ?_⟩
  · rw [mem, List.mem_filter, W.perm.mem_iff]
    exact ⟨fun h => ⟨h.1, decide_eq_true h.2⟩, fun h => ⟨h.1, of_decide_eq_true h.2⟩⟩
  · rw [hX]
    split
    · exact put_nodup (del_nodup W.ixn)
    · exact del_nodup W.ixn
  · rw [hX, mem]
    split
    · rename_i hne
      rw [has_put, hdel]
      exact ⟨fun h => h.elim (fun e => e ▸ ⟨List.mem_of_getElem? hl, hlast hne⟩) id, .inr⟩
    · exact hdel j
  · obtain ⟨hjk, hjn⟩ := (mem j).mp hj
    obtain ⟨b0, b1⟩ := W.at_ j hjk
    have b2 := W.lt hjk
    have hIj : I.toNat ≠ (kdfLook ix j 0).toNat := fun e => by rw [← e, hi] at b1; cases b1; exact hjn rfl
    rw [hX]
    split
    · rename_i hne
      rw [look_put]
      by_cases e : j = last
      · rw [if_pos e]
        refine ⟨h0, ?_⟩
        rw [get, if_pos (by omega), if_pos rfl, e]
      · rw [if_neg e, look_del hjn]
        refine ⟨b0, ?_⟩
        have : (kdfLook ix j 0).toNat ≠ ks.length - 1 := fun q => by rw [q, hl] at b1; cases b1; exact e rfl
        rw [get, if_pos (by omega), if_neg hIj]; exact b1
    · rename_i heq
      have heq' : I = (ks.length : Int) - 1 := by simpa using heq
      rw [look_del hjn]
      refine ⟨b0, ?_⟩
      have : (kdfLook ix j 0).toNat ≠ ks.length - 1 := fun q => by apply hIj; rw [q, heq']; omega
      rw [get, if_pos (by omega), if_neg hIj]; exact b1

theorem WfK.add {names ks : List Int} {ix : List (Int × Int)} (W : WfK names ks ix) {k : Int} (hk : k ∉ names) : WfK (names ++ [k]) (ks ++ [k]) (kdfPut ix k (ks.length : Nat)) := by
  have hkk : k ∉ ks := fun h => hk (W.perm.mem_iff.mp h)
  refine ⟨?_, W.perm.append_right _, put_nodup W.ixn, fun j => ?_, fun j hj => ?_⟩
  · rw [List.nodup_append]
    refine ⟨W.nd, by simp, fun a ha b hb e => ?_⟩
    rw [List.mem_singleton.mp hb] at e
    exact hk (e ▸ ha)
  · rw [has_put, W.has, List.mem_append, List.mem_singleton]
    exact Or.comm
  · rw [look_put]
    rcases List.mem_append.mp hj with h | h
    · have hne : j ≠ k := fun e => hkk (e ▸ h)
      rw [if_neg hne]
      obtain ⟨b0, b1⟩ := W.at_ j h
      exact ⟨b0, by rw [List.getElem?_append_left (W.lt h)]; exact b1⟩
    · rw [List.mem_singleton.mp h, if_pos rfl]
      exact ⟨by omega, by simp⟩
theorem WfK.same {names ks : List Int} {ix : List (Int × Int)} (W : WfK names ks ix) {k : Int} : kdfHas ix k = true ↔ k ∈ names := by rw [W.has, W.perm.mem_iff]

/-- Python's sorted -/
def sortI (l : List Int) : List Int := l.mergeSort (fun a b => decide (a ≤ b))
theorem sortI_perm (l : List Int) : (sortI l).Perm l := List.mergeSort_perm ..
theorem sortI_le (l : List Int) : (sortI l).Pairwise (· ≤ ·) := by
  have := List.pairwise_mergeSort (le := fun a b : Int => decide (a ≤ b)) (fun a b c h1 h2 => by simp only [decide_eq_true_eq] at *; omega) (fun a b => by simp only [Bool.or_eq_true, decide_eq_true_eq]; omega) l
  exact this.imp fun h => of_decide_eq_true h
theorem sortI_uniq {a l : List Int} (p : a.Perm l) (o : a.Pairwise (· ≤ ·)) : a = sortI l := ksm_same (p.trans (sortI_perm l).symm) o (sortI_le l)
theorem sortI_of_perm {a l : List Int} (p : a.Perm l) : sortI a = sortI l := sortI_uniq ((sortI_perm a).trans p) (sortI_le a)
theorem sortI_length (l : List Int) : (sortI l).length = l.length := (sortI_perm l).length_eq

def picked (names nums : List Int) (n : Nat) : Int := (sortI names).getD (((nums.getD (n % nums.length) 0) % (names.length : Int)).toNat) 0
theorem picked_mem {names nums : List Int} {n : Nat} (h : names ≠ []) : picked names nums n ∈ names := by
  have hl : 0 < names.length := List.length_pos_iff.mpr h
  have h1 := Int.emod_nonneg (nums.getD (n % nums.length) 0) (b := (names.length : Int)) (by omega)
  have h2 := Int.emod_lt_of_pos (nums.getD (n % nums.length) 0) (b := (names.length : Int)) (by omega)
  refine (sortI_perm names).mem_iff.mp ?_
  unfold picked
  have hlt : ((nums.getD (n % nums.length) 0) % (names.length : Int)).toNat < (sortI names).length := by rw [sortI_length]; omega
  rw [List.getD_eq_getElem?_getD, List.getElem?_eq_getElem hlt]
  exact List.getElem_mem hlt
theorem picked_perm {a b nums : List Int} (p : a.Perm b) (n : Nat) : picked a nums n = picked b nums n := by unfold picked; rw [sortI_of_perm p, p.length_eq]

/-- what must go, one by one -/
def evict (sz : Bool) (room : Int) (nums : List Int) (key size : Int) : Nat → List (Int × Int) → List (List Int) → List (Int × Int) × List (List Int)
  | 0, c, sh => (c, sh)
  | n + 1, c, sh => if roomOf sz (delI c key) + size > room then
      evict sz room nums key size n (delI c (picked (c.map (·.1)) nums sh.length)) (sh ++ [sortI (c.map (·.1))])
    else (c, sh)
end Mine
end
section
open PySem PySem.W PySem.Calls PyProof.Rows PyProof.V PySem.Spec
namespace Mine
theorem kl_last_append : ∀ (l : List Value) (y : Value), kl_last (l ++ [y]) = some (l, y)
  | [], _ => rfl
  | x :: r, y => by
    show (match kl_last (r ++ [y]) with | some (p, y) => some (x :: p, y) | none => some ([], x)) = _
    rw [kl_last_append r y]
theorem ints_append {vs ws : List Value} {ns ms : List Int} (h : IntsAre vs ns) (k : IntsAre ws ms) : IntsAre (vs ++ ws) (ns ++ ms) := by
  induction h with
  | nil => exact k
  | cons n t _ ih => exact .cons n t ih
theorem ints_take {vs : List Value} {ns : List Int} (h : IntsAre vs ns) : ∀ n, IntsAre (vs.take n) (ns.take n) := by
  induction h with
  | nil => intro n; simp; exact .nil
  | cons i t _ ih =>
    intro n
    cases n with
    | zero => simp; exact .nil
    | succ n => exact .cons i t (ih n)

section
variable {w : World} {A : Around} {E : Value → Shared → Prop} {s : Shared} {g : Heap} {L d : Addr} {m : Str → Option Value} {news news' : List (Addr × Obj)} {vs : List Value} {ks : List Int} {n : Nat} {k x : Int} {t te : Tok}
theorem l_is (N : News g L s.heap news) (hm : (d, listOf vs.toArray n) ∈ news) : s.heap.IsList d vs.toArray := ⟨_, (N _ hm).1, rfl, n, rfl⟩
theorem l_len {Q : Value → Shared → Prop} (N : News g L s.heap news) (hm : (d, listOf vs.toArray n) ∈ news) (hi : IntsAre vs ks) (hs : ks.length ≤ 1000) (h : Q (.int (ks.length : Nat) (s.toks + 1)) { s with toks := s.toks + 1 + 1 }) :
    wpAny (model PG w) A (call (.builtin "len") [.ref d]) Q E s := by
  have e := hi.length
  refine call_len_list (l_is N hm) (by rw [List.size_toArray, e]; omega) ?_
  rw [List.size_toArray, e]; exact h
theorem l_truthy {Q : Bool → Shared → Prop} (N : News g L s.heap news) (hm : (d, listOf vs.toArray n) ∈ news) (hi : IntsAre vs ks) (hs : ks.length ≤ 1000) (h : Q (!ks.isEmpty) { s with toks := s.toks + 1 + 1 }) :
    wpAny (model PG w) A (truthy (.ref d)) Q E s := by
  have e := hi.length
  refine wpAny_truthy_list (l_is N hm) (by rw [List.size_toArray, e]; omega) ?_
  have : vs.toArray.isEmpty = ks.isEmpty := by cases hi <;> rfl
  rw [this]; exact h
theorem l_item {value slice : PySem.Expr} {Q : Value → Shared → Prop} (N : News g L s.heap news) (hm : (d, listOf vs.toArray n) ∈ news) (hi : IntsAre vs ks) (h0 : 0 ≤ k) (h1 : k < ks.length) (hs1 : ks.length ≤ 1000) (h : ∀ t, Q (.int (ks.getD k.toNat 0) t) s)
    (hs : subscripted slice false (.ref d) (.int k t) = operate [.ref d, .int k t] (getItem (.ref d) (.int k t)) := by with_unfolding_all rfl) :
    wpAny (model PG w) A (subscriptTail value slice (.ref d) (.int k t)) Q E s := ksa_sub N hm hi h0 h1 (by omega) h hs
theorem l_last {value slice : PySem.Expr} {Q : Value → Shared → Prop} (N : News g L s.heap news) (hm : (d, listOf vs.toArray n) ∈ news) (hi : IntsAre vs ks) (hne : 0 < ks.length) (h : ∀ t, Q (.int (ks.getD (ks.length - 1) 0) t) s)
    (hs : subscripted slice false (.ref d) (.int (-1) t) = operate [.ref d, .int (-1) t] (getItem (.ref d) (.int (-1) t)) := by with_unfolding_all rfl) :
    wpAny (model PG w) A (subscriptTail value slice (.ref d) (.int (-1) t)) Q E s := by
  have e := hi.length
  obtain ⟨x, hx⟩ : ∃ x, ks[ks.length - 1]? = some x := ⟨ks[ks.length - 1], by simp⟩
  obtain ⟨u, hu⟩ := hi.get _ _ hx
  refine tail_any (l_is N hm).typeIs slot_list_getitem.lookup (wpAny_getItem_list_neg (l_is N hm) (by decide) (by rw [List.size_toArray]; omega) (by decide) (x := .int x u) ?_ ?_) hs
  · have : ((-1 : Int) + (vs.toArray.size : Nat)).toNat = ks.length - 1 := by rw [List.size_toArray]; omega
    rw [this, List.getElem?_toArray]; exact hu
  · have := h u
    rwa [List.getD_eq_getElem?_getD, hx] at this
theorem l_set {Q : Unit → Shared → Prop} (F : Fr g L s.heap m) (N : News g L s.heap news) (U : Upd d (listOf vs.toArray n) (listOf (vs.set k.toNat (.int x te)).toArray n) news news') (hi : IntsAre vs ks) (h0 : 0 ≤ k) (h1 : k < ks.length) (hs1 : ks.length ≤ 1000)
    (h : ∀ h', Fr g L h' m → News g L h' news' → IntsAre (vs.set k.toNat (.int x te)) (ks.set k.toNat x) → Q () { s with heap := h' }) :
    wpAny (model PG w) A (setItem (.ref d) (.int k t) (.int x te)) Q E s := ksa_set F N U hi h0 h1 (by omega) fun h' F' N' hi' _ _ => h h' F' N' hi'
theorem l_pop {Q : Value → Shared → Prop} (F : Fr g L s.heap m) (N : News g L s.heap news)
    (U : Upd d (listOf vs.toArray n) (listOf (vs.take (vs.length - 1)).toArray (n + 1)) news news') (hi : IntsAre vs ks) (hne : 0 < ks.length) (hs1 : ks.length ≤ 1000)
    (h : ∀ h' v, Fr g L h' m → News g L h' news' → IntsAre (vs.take (vs.length - 1)) (ks.take (ks.length - 1)) → Q v { s with heap := h' }) :
    wpAny (model PG w) A (call (.builtin "list.pop") [.ref d]) Q E s := by
  have e := hi.length
  have hlt : vs.length - 1 < vs.length := by omega
  have hv : vs = vs.take (vs.length - 1) ++ [vs[vs.length - 1]] := by
    have h1 := List.take_append_drop (vs.length - 1) vs
    have h2 : vs.drop (vs.length - 1) = [vs[vs.length - 1]] := by
      rw [List.drop_eq_getElem_cons hlt, List.drop_eq_nil_of_le (by omega)]
    rw [h2] at h1; exact h1.symm
  refine kl_pop F N (p := vs.take (vs.length - 1)) (y := vs[vs.length - 1]) ?_ U (by rw [sizeLine_eq, List.toList_toArray]; omega) fun h' F' N' => h h' _ F' N' (by rw [e]; exact ints_take hi _)
  rw [List.toList_toArray]
  conv => lhs; rw [hv]
  exact kl_last_append _ _
theorem l_append {Q : Value → Shared → Prop} (F : Fr g L s.heap m) (N : News g L s.heap news)
    (U : Upd d (listOf vs.toArray n) (listOf (vs ++ [Value.int k t]).toArray (n + 1)) news news') (hi : IntsAre vs ks) (hs1 : ks.length ≤ 1000)
    (h : ∀ h', Fr g L h' m → News g L h' news' → IntsAre (vs ++ [Value.int k t]) (ks ++ [k]) → Q .none { s with heap := h' }) :
    wpAny (model PG w) A (call (.builtin "list.append") [.ref d, .int k t]) Q E s := by
  have e := hi.length
  have ev : vs.toArray.push (Value.int k t) = (vs ++ [Value.int k t]).toArray := by simp
  exact append_K F N (ev.symm ▸ U) (fun h' F' N' => h h' F' N' (ints_append hi (.cons k t .nil))) (by rw [sizeLine_eq, List.size_toArray]; omega)
theorem l_pushv {v : Value} {Q : Value → Shared → Prop} (F : Fr g L s.heap m) (N : News g L s.heap news) (hs1 : vs.length ≤ 1000)
    (U : Upd d (listOf vs.toArray n) (listOf (vs ++ [v]).toArray (n + 1)) news news')
    (h : ∀ h', Fr g L h' m → News g L h' news' → Q .none { s with heap := h' }) :
    wpAny (model PG w) A (call (.builtin "list.append") [.ref d, v]) Q E s := by
  have ev : vs.toArray.push v = (vs ++ [v]).toArray := by simp
  exact append_K F N (ev.symm ▸ U) (fun h' F' N' => h h' F' N') (by rw [sizeLine_eq, List.size_toArray]; omega)
end
end Mine

namespace Mine
theorem WfK.ixlen {names ks : List Int} {ix : List (Int × Int)} (W : WfK names ks ix) : ix.length = ks.length := by
  have : (ix.map (·.1)).Perm ks := (List.perm_ext_iff_of_nodup W.ixn W.knd).mpr fun k => by rw [← has_iff, W.has]
  rw [← this.length_eq, List.length_map]
theorem WfK.kslen {names ks : List Int} {ix : List (Int × Int)} (W : WfK names ks ix) : ks.length = names.length := W.perm.length_eq
theorem OD.cong {c : CL} {st st' : CS} {es : List DictEntry} (O : OD c st es) (h1 : st'.sz = st.sz) (h2 : st'.room = st.room) (h3 : st'.fch = st.fch) (h4 : st'.pairs = st.pairs) : OD c st' es :=
  ⟨O.data, h1 ▸ O.size, h1 ▸ O.gets, h1 ▸ h4 ▸ O.cur, h2 ▸ O.max, h3 ▸ O.choice, O.index, O.keys, O.m1, O.m2, O.m3, O.m4, O.m5, O.m6, O.m7, O.short⟩
theorem delK_last {ks : List Int} {i : Int} (h : i = (ks.length : Int) - 1) : delK ks i.toNat = ks.take (ks.length - 1) := by
  apply List.ext_getElem?
  intro j
  rw [delK_get, List.getElem?_take]
  split
  · rw [if_neg (by omega)]
  · rfl
theorem delX_ne {ks : List Int} {ix : List (Int × Int)} {k : Int} (h : kdfLook ix k 0 ≠ (ks.length : Int) - 1) : delX ks ix k = kdfPut (delI ix k) (ks.getD (ks.length - 1) 0) (kdfLook ix k 0) := if_pos h
theorem delX_eq {ks : List Int} {ix : List (Int × Int)} {k : Int} (h : kdfLook ix k 0 = (ks.length : Int) - 1) : delX ks ix k = delI ix k := if_neg (not_not_intro h)
end Mine

namespace Mine
/-- a list of ints lies there -/
def IntL (h : Heap) (a : Addr) (l : List Int) : Prop := ∃ vs n, h.get? a = some (listOf vs.toArray n) ∧ IntsAre vs l

/-- the choice handed in: what it asks of the heap, what it does -/
structure ChS (w : World) (c : CL) (fch : Addr) (nums : List Int) (Ch : Heap → Prop) : Prop where
  keep : ∀ h h', Mod c.adr h h' → Ch h → Ch h'
  fn : ∀ h, Ch h → FnAt fch h
  call : ∀ (o : CO) (st : CS), CI w c o st → st.fch = fch → st.ks ≠ [] → st.ks.length ≤ 5 → o.us.length ≤ 500 →
    Spec w 20 fch [.ref c.ak] c o Ch fun h h' v o' => (∃ t, v = .int (picked st.ks nums o.us.length) t) ∧ CI w c o' st ∧ ∃ a, o'.us = o.us ++ [.ref a] ∧ h.get? a = none ∧ IntL h' a (sortI st.ks)

theorem IntL.mod {S : List Addr} {h₀ h h' : Heap} {a : Addr} {l : List Int} (x : IntL h a l) (M : Mod S h h') (hS : ∀ b ∈ S, h₀.get? b ≠ none) (ha : h₀.get? a = none) : IntL h' a l :=
  let ⟨vs, n, e, i⟩ := x; ⟨vs, n, M _ _ (fun q => hS a q ha) e, i⟩
theorem adr_some {g : Heap} {L : Addr} {h : Heap} {c : CL} {o : CO} (N : News g L h (c.led o)) : ∀ b ∈ c.adr, h.get? b ≠ none := fun b hb => by
  rw [← led_adr c o] at hb
  obtain ⟨p, hp, rfl⟩ := List.mem_map.mp hb
  rw [(N p hp).1]; exact fun e => nomatch e

section
variable {M : Model} {A : Around} {E : Value → Shared → Prop} {s : Shared} {K : Frag} {x C L f : Addr} {h₀ : Heap} {m : Str → Option Value} {ox : Obj} {od : Option Obj} {i v : Value}
theorem del_inst {Q : Unit → Shared → Prop} (F : Fr h₀ L s.heap m) (X₀ : K.In h₀) (I : InstAt s.heap x ox C od) (hq : noSeq K C = true) (hs : findIn K (.ref C) "__delitem__" = some (some (.ref f))) (hf : isFn K (.ref f) = true)
    (h : wpAny M A (call (.ref f) [.ref x, i]) (fun _ s' => Q () s') E s) : wpAny M A (delItem (.ref x) i) Q E s := by
  have X := X₀.keeps F.keep
  unfold delItem sequenceKey
  refine wpAny_holding (wpAny_bind (wpAny_bind (I.type.here ?_)))
  refine wpAny_bind ((anyM_none X hq).here ?_)
  rw [if_pos (show (!false) = true from rfl)]
  exact wpAny_pure (wpAny_bind (special_fn X I hs (beq_iff_eq.mp hf) (wpAny_mono h (fun _ _ z => wpAny_pure z) fun _ _ z => z)))
end
theorem l_truthyT {w : World} {A : Around} {E : Value → Shared → Prop} {s : Shared} {g : Heap} {L d : Addr} {news : List (Addr × Obj)} {vs : List Value} {ks : List Int} {n : Nat} {Q : Bool → Shared → Prop}
    (N : News g L s.heap news) (hm : (d, listOf vs.toArray n) ∈ news) (hi : IntsAre vs ks) (hs : ks.length ≤ 1000) (hne : 0 < ks.length) (h : Q true { s with toks := s.toks + 1 + 1 }) :
    wpAny (model PG w) A (truthy (.ref d)) Q E s := l_truthy N hm hi hs (by cases ks with | nil => exact absurd hne (Nat.lt_irrefl _) | cons a r => exact h)
end Mine

namespace Mine
def FnS (g' : Heap) (L' : Addr) (f : Addr) : Prop := ∀ h' m', Fr g' L' h' m' → FnAt f h'
theorem FnS.at {g' h' : Heap} {L' f : Addr} {m' : Str → Option Value} (x : FnS g' L' f) (F : Fr g' L' h' m') : FnAt f h' := x _ _ F
def ChP (g' : Heap) (L' : Addr) (Ch : Heap → Prop) : Prop := ∀ h' m', Fr g' L' h' m' → Ch h'
theorem ChS.inner {w : World} {c : CL} {fch : Addr} {nums : List Int} {Ch : Heap → Prop} (H : ChS w c fch nums Ch) {h g' : Heap} {L' : Addr} (hp : Ch h) (hg : ∀ b o, h.get? b = some o → b ∉ c.adr → g'.get? b = some o) : ChP g' L' Ch :=
  fun _ _ F => H.keep _ _ (fun b o n e => F.keep b o (hg b o e n)) hp
theorem ChS.fns {w : World} {c : CL} {fch : Addr} {nums : List Int} {Ch : Heap → Prop} (H : ChS w c fch nums Ch) {g' : Heap} {L' : Addr} (x : ChP g' L' Ch) : FnS g' L' fch := fun _ _ F => H.fn _ (x _ _ F)
end Mine
end
section
open PySem PySem.W PySem.Calls PyProof.Rows PyProof.V PySem.Spec
namespace Mine
theorem news_more {g h : Heap} {L a : Addr} {o : Obj} {l : List (Addr × Obj)} (N : News g L h l) (h0 : a ≠ L ∧ g.get? a = none) (e : h.get? a = some o) : News g L h (l ++ [(a, o)]) := by
  intro p hp
  rcases List.mem_append.mp hp with q | q
  · exact N p q
  · rw [List.mem_singleton.mp q]
    exact ⟨e, h0.1, h0.2⟩
theorem news7 {g h : Heap} {L : Addr} {e1 e2 e3 e4 e5 e6 e7 : Addr × Obj} {r : List (Addr × Obj)} (N : News g L h (e1 :: e2 :: e3 :: e4 :: e5 :: e6 :: e7 :: r)) : News g L h [e1, e2, e3, e4, e5, e6, e7] :=
  fun p hp => N p (List.mem_append_left (bs := r) hp)
theorem news17 {g h : Heap} {L : Addr} {e0 e1 e2 e3 e4 e5 e6 e7 : Addr × Obj} {r : List (Addr × Obj)} (N : News g L h (e0 :: e1 :: e2 :: e3 :: e4 :: e5 :: e6 :: e7 :: r)) : News g L h [e1, e2, e3, e4, e5, e6, e7] :=
  fun p hp => N p (.tail _ (List.mem_append_left (bs := r) hp))
theorem fresh_of {h g' h' : Heap} {L' a : Addr} {o : Obj} {l : List (Addr × Obj)} {S : List Addr} (hg : ∀ b o, h.get? b = some o → b ∉ S → g'.get? b = some o) (N : News g' L' h' l) (hm : (a, o) ∈ l) (hS : a ∉ S) : h.get? a = none := by
  cases q : h.get? a with
  | none => rfl
  | some o' =>
    have e := (N _ hm).2.2
    rw [hg _ _ q hS] at e; cases e
theorem off1 {a : Addr} {o : Obj} {S : List Addr} (h : a ∉ S) : ∀ p ∈ [(a, o)], p.1 ∉ S := fun p hp => by rw [List.mem_singleton.mp hp]; exact h
theorem Spec.useX {w : World} {d : Nat} {f : Addr} {args : List Value} {c : CL} {o : CO} {Pre : Heap → Prop} {P : Heap → Heap → Value → CO → Prop} (S : Spec w d f args c o Pre P) {r : List (Addr × Obj)}
    {A : Around} {s : Shared} {g : Heap} {L : Addr} {m : Str → Option Value} {p : Program} {loose : List Str} {mean : ExcName → Option Value} {mg mb : Str → Option Value} {Q E : Value → Shared → Prop}
    (F : Fr g L s.heap m) (N : News g L s.heap (c.led o ++ r)) (X : (KK w.params).In g) (T : Top p loose mean mg mb g) (hd' : A.depth + d < recursionLimit) (hu : A.units + 20 * d < cLine) (hh : A.handled = none) (hpre : Pre s.heap) (hr : ∀ p ∈ r, p.1 ∉ c.adr)
    (h : ∀ h' tk v o', P s.heap h' v o' → Fr g L h' m → News g L h' (c.led o' ++ r) → Mod c.adr s.heap h' → (∀ a, s.heap.get? a = none → (a ≠ L ∧ g.get? a = none) ∧ a ∉ c.adr) → Q v { s with heap := h', toks := tk }) :
    wpAny (model PG w) A (call (.ref f) args) Q E s := by
  refine S.use F (fun p hp => N p (List.mem_append_left _ hp)) X T hd' hu hh hpre fun h' tk v o' hP F' N' M' => h h' tk v o' hP F' (fun p hp => by
    rcases List.mem_append.mp hp with q | q
    · exact N' p q
    · obtain ⟨a, b⟩ := N p (List.mem_append_right _ q)
      exact ⟨M' _ _ (hr p q) a, b⟩) M' fun a h0 => ⟨⟨?_, ?_⟩, ?_⟩
  · obtain ⟨oL, _, _, hLo, _⟩ := F.ns
    exact fun q => by rw [show a = L from q, hLo] at h0; cases h0
  · cases q : g.get? a with
    | none => rfl
    | some o' => rw [F.keep _ _ q] at h0; cases h0
  · exact fun q => adr_some (fun p hp => N p (List.mem_append_left _ hp)) a q h0
end Mine
end
section
open PySem PySem.W PySem.Calls PyProof.Rows PyProof.V PySem.Spec
namespace Mine
/-- what a pure def does: all that lies there stays -/
def PSpec (w : World) (d : Nat) (f : Addr) (args : List Value) (Pre : Heap → Prop) (P : Heap → Heap → Value → Prop) : Prop :=
  ∀ (A : Around) (s : Shared) (g : Heap) (L : Addr) (m : Str → Option Value) (R : Result → Shared → Prop) (p : Program) (loose : List Str) (mean : ExcName → Option Value) (mg mb : Str → Option Value),
    Fr g L s.heap m → (KK w.params).In g → Top p loose mean mg mb g → A.depth + d < recursionLimit → A.units + 20 * d < cLine → A.handled = none → Pre s.heap →
    (∀ h' tk v, P s.heap h' v → Fr g L h' m → (∀ b o, s.heap.get? b = some o → h'.get? b = some o) → R (.ok (.ret v)) { s with heap := h', toks := tk }) →
    codeAny (model PG w) A (.call (.ref f) ⟨args, []⟩) R s
theorem PSpec.use {w : World} {d : Nat} {f : Addr} {args : List Value} {Pre : Heap → Prop} {P : Heap → Heap → Value → Prop} (S : PSpec w d f args Pre P)
    {A : Around} {s : Shared} {g : Heap} {L : Addr} {m : Str → Option Value} {news : List (Addr × Obj)} {p : Program} {loose : List Str} {mean : ExcName → Option Value} {mg mb : Str → Option Value} {Q E : Value → Shared → Prop}
    (F : Fr g L s.heap m) (N : News g L s.heap news) (X : (KK w.params).In g) (T : Top p loose mean mg mb g) (hd' : A.depth + d < recursionLimit) (hu : A.units + 20 * d < cLine) (hh : A.handled = none) (hpre : Pre s.heap)
    (h : ∀ h' tk v, P s.heap h' v → Fr g L h' m → News g L h' news → (∀ b o, s.heap.get? b = some o → h'.get? b = some o) → (∀ a, s.heap.get? a = none → (a ≠ L ∧ g.get? a = none) ∧ a ∉ news.map (·.1)) → Q v { s with heap := h', toks := tk }) :
    wpAny (model PG w) A (call (.ref f) args) Q E s :=
  wpAny_call (S A s g L m _ p loose mean mg mb F X T hd' hu hh hpre fun h' tk v hP F' k => h h' tk v hP F' (fun p hp => ⟨k _ _ (N p hp).1, (N p hp).2⟩) k fun a h0 => by
    refine ⟨⟨?_, ?_⟩, ?_⟩
    · obtain ⟨oL, _, _, hLo, _⟩ := F.ns
      exact fun q => by rw [show a = L from q, hLo] at h0; cases h0
    · cases q : g.get? a with
      | none => rfl
      | some o' => rw [F.keep _ _ q] at h0; cases h0
    · intro q
      obtain ⟨p, hp, rfl⟩ := List.mem_map.mp q
      rw [(N p hp).1] at h0; cases h0)
section
variable {prog : Program} {w : World} {A : Around} {s : Shared} {K : Frag} {p : Program} {loose : List Str} {mean : ExcName → Option Value} {mg mb : Str → Option Value}
  {g : Heap} {L f : Addr} {m : Str → Option Value} {R : Result → Shared → Prop} {name qual : Str} {params : Arguments} {body : List Stmt} {scope : Scope} {dV kV doc pm cdv ct oc : Value} {an od : Option Addr} {osl : Array (Option Value)}
  {args : Args} {binds : List (Str × Value)}
/-- into a pure def -/
theorem enterP (F : Fr g L s.heap m) (X : K.In g) (T : Top p loose mean mg mb g)
    (ho : K.lookup f = some ⟨oc, od, .func (fnOf name qual params body scope dV kV doc pm an cdv ct), osl⟩) (hcd : codeIn K cdv qual = true) (hroom : A.depth < recursionLimit)
    (hbind : BindsTo s (fnOf name qual params body scope dV kV doc pm an cdv ct) args binds) (hloc : ∀ y ∈ binds, scope.names.lookup y.1 = some .local)
    (h : ∀ g' L' h₁, Fr g' L' h₁ (fun y => binds.reverse.lookup y) → News g' L' h₁ [] → K.In g' → Top p loose mean mg mb g' → g' = s.heap →
      ∀ E' : Value → Shared → Prop, wpAny (model prog w) (A.deeper (envOf qual scope L' f cdv)) (execs body (envOf qual scope L' f cdv)) (Fin R) E' { s with heap := h₁, toks := s.toks + binds.length })
    (hco : scope.isCoroutine = false := by exact rfl) (hgen : scope.isGenerator = false := by exact rfl) (hk : scope.kind = .function := by exact rfl)
    (hcell : ∀ x ∈ scope.names, x.2 ≠ .cell := by decide) : codeAny (model prog w) A (.call (.ref f) args) R s := by
  refine codeAny_call_def (fd := fnOf name qual params body scope dV kV doc pm an cdv ct) (body := body) (binds := binds) hroom ((X.keeps F.keep) _ _ ho) rfl (T.nolimit.keeps F.keep) (codeRec_of (X.keeps F.keep) hcd) rfl hbind hcell hloc (fun h₁ hns hk₁ => ?_) hco hgen hk
  exact h s.heap s.heap.objs.size h₁ ⟨hns, hk₁, Nat.le_refl _⟩ (fun _ hp => nomatch hp) (X.keeps F.keep) (T.keeps F.keep) rfl _
theorem backP {L' : Addr} {h h' : Heap} {m' : Str → Option Value} (F : Fr g L h m) (F' : Fr h L' h' m') : Fr g L h' m ∧ (∀ b o, h.get? b = some o → h'.get? b = some o) := by
  obtain ⟨oL, es, ep, hLo, r⟩ := F.ns
  exact ⟨⟨⟨oL, es, ep, F'.keep L oL hLo, r⟩, fun b o e => F'.keep b o (F.keep b o e), F.above⟩, F'.keep⟩
end
/-- lists of ints that lie in the ledger -/
inductive SeenR : List (Addr × Obj) → List (List Int) → Prop
  | nil : SeenR [] []
  | cons (a : Addr) (vs : List Value) (n : Nat) {l : List Int} {r : List (Addr × Obj)} {ls : List (List Int)} : IntsAre vs l → SeenR r ls → SeenR ((a, listOf vs.toArray n) :: r) (l :: ls)
theorem SeenR.append {r r' : List (Addr × Obj)} {l l' : List (List Int)} (h : SeenR r l) (k : SeenR r' l') : SeenR (r ++ r') (l ++ l') := by
  induction h with
  | nil => exact k
  | cons a vs n i _ ih => exact .cons a vs n i ih
theorem SeenR.length {r : List (Addr × Obj)} {l : List (List Int)} (h : SeenR r l) : r.length = l.length := by
  induction h with
  | nil => rfl
  | cons _ _ _ _ _ ih => simp [ih]
def refsOf (r : List (Addr × Obj)) : List Value := r.map fun p => .ref p.1

/-- half way through making room -/
structure EvI (w : World) (c : CL) (nums : List Int) (st : CS) (key size : Int) (sh₀ : List (List Int)) (us₀ : List Value) (n : Nat) (o' : CO) (st' : CS) (r : List (Addr × Obj)) (sh : List (List Int)) : Prop where
  ci : CI w c o' st'
  wf : WfK (st'.pairs.map (·.1)) st'.ks st'.ix
  sz : st'.sz = st.sz
  room : st'.room = st.room
  fch : st'.fch = st.fch
  ev : evict st.sz st.room nums key size st.pairs.length st.pairs sh₀ = evict st.sz st.room nums key size n st'.pairs (sh₀ ++ sh)
  fuel : n = st'.pairs.length
  us : o'.us = us₀ ++ refsOf r
  seen : SeenR r sh
  off : ∀ p ∈ r, p.1 ∉ c.adr
  bound : st'.pairs.length + sh.length ≤ st.pairs.length
  sub : ∀ j, kdfHas st'.pairs j = true → kdfHas st.pairs j = true
theorem EvI.start {w : World} {c : CL} {o : CO} {st : CS} {nums : List Int} {key size : Int} {sh₀ : List (List Int)} (I : CI w c o st) (W : WfK (st.pairs.map (·.1)) st.ks st.ix) : EvI w c nums st key size sh₀ o.us st.pairs.length o st [] [] :=
  { ci := I, wf := W, sz := rfl, room := rfl, fch := rfl, ev := by rw [List.append_nil], fuel := rfl, us := by simp [refsOf], seen := .nil, off := (fun _ hp => nomatch hp), bound := Nat.le_refl _, sub := (fun _ h => h) }
theorem evict_stop {sz : Bool} {room : Int} {nums : List Int} {key size : Int} {n : Nat} {c : List (Int × Int)} {sh : List (List Int)} (h : ¬ roomOf sz (delI c key) + size > room) : evict sz room nums key size n c sh = (c, sh) := by
  cases n with
  | zero => rfl
  | succ n => unfold evict; rw [if_neg h]
theorem EvI.ne {w : World} {c : CL} {o' : CO} {st st' : CS} {nums : List Int} {key size : Int} {sh₀ : List (List Int)} {us₀ : List Value} {n : Nat} {r : List (Addr × Obj)} {sh : List (List Int)} (_J : EvI w c nums st key size sh₀ us₀ n o' st' r sh)
    (hs : size ≤ st.room) (h : roomOf st.sz (delI st'.pairs key) + size > st.room) : st'.pairs ≠ [] := by
  intro e; rw [e] at h; unfold delI roomOf at h; simp at h; omega
theorem EvI.step {w : World} {c : CL} {o' o₂ : CO} {st st' : CS} {nums : List Int} {key size : Int} {sh₀ : List (List Int)} {us₀ : List Value} {n : Nat} {r : List (Addr × Obj)} {sh : List (List Int)} (J : EvI w c nums st key size sh₀ us₀ n o' st' r sh)
    (h0 : sh₀.length = us₀.length) (hs : size ≤ st.room) (h : roomOf st.sz (delI st'.pairs key) + size > st.room) {a : Addr} {va : List Value} {na : Nat}
    (C : CI w c o₂ { st' with pairs := delI st'.pairs (picked st'.ks nums o'.us.length), ks := delK st'.ks (kdfLook st'.ix (picked st'.ks nums o'.us.length) 0).toNat, ix := delX st'.ks st'.ix (picked st'.ks nums o'.us.length) })
    (hu : o₂.us = o'.us ++ [.ref a]) (ha : a ∉ c.adr) (i : IntsAre va (sortI st'.ks)) :
    EvI w c nums st key size sh₀ us₀ (n - 1) o₂ { st' with pairs := delI st'.pairs (picked st'.ks nums o'.us.length), ks := delK st'.ks (kdfLook st'.ix (picked st'.ks nums o'.us.length) 0).toNat, ix := delX st'.ks st'.ix (picked st'.ks nums o'.us.length) }
      (r ++ [(a, listOf va.toArray na)]) (sh ++ [sortI st'.ks]) ∧ n - 1 < n := by
  have hne := J.ne hs h
  have hl : 0 < st'.pairs.length := List.length_pos_iff.mpr hne
  have hks : st'.ks ≠ [] := fun e => by have := J.wf.kslen; rw [e, List.length_map] at this; simp at this; omega
  have hpm := picked_mem (nums := nums) (n := o'.us.length) hks
  have hpn : picked st'.ks nums o'.us.length ∈ st'.pairs.map (·.1) := J.wf.perm.mem_iff.mp hpm
  have hlen : (delI st'.pairs (picked st'.ks nums o'.us.length)).length = st'.pairs.length - 1 := by
    have e1 := (J.wf.del hpn).kslen
    rw [← del_keys, List.length_map] at e1
    rw [← e1]
    have e2 : (delK st'.ks (kdfLook st'.ix (picked st'.ks nums o'.us.length) 0).toNat).length = st'.ks.length - 1 := by unfold delK; rw [List.length_take, List.length_set]; omega
    rw [e2, J.wf.kslen, List.length_map]
  have husl : o'.us.length = (sh₀ ++ sh).length := by rw [J.us, List.length_append, List.length_append, ← h0]; unfold refsOf; rw [List.length_map, J.seen.length]
  refine ⟨⟨C, ?_, J.sz, J.room, J.fch, ?_, ?_, ?_, J.seen.append (.cons _ _ _ i .nil), ?_, ?_, ?_⟩, ?_⟩
  · have := J.wf.del hpn; rw [← del_keys] at this; exact this
  · rw [J.ev]
    obtain ⟨k, hk⟩ : ∃ k, n = k + 1 := ⟨n - 1, by rw [J.fuel]; omega⟩
    rw [hk]
    conv => lhs; unfold evict
    rw [if_pos h, Nat.add_sub_cancel, List.append_assoc, ← husl, picked_perm J.wf.perm.symm, sortI_of_perm J.wf.perm.symm]
  · rw [J.fuel]; exact hlen.symm
  · rw [hu, J.us]; simp [refsOf]
  · intro p hp
    rcases List.mem_append.mp hp with q | q
    · exact J.off p q
    · rw [List.mem_singleton.mp q]; exact ha
  · have := J.bound; simp only [List.length_append, List.length_singleton, hlen]; omega
  · intro j hj
    refine J.sub j ?_
    rw [has_iff] at hj ⊢
    dsimp only at hj
    rw [del_keys] at hj
    exact (List.mem_filter.mp hj).1
  · rw [J.fuel]; omega
end Mine
end
section
open PySem PySem.W PySem.Calls PyProof.Rows PyProof.V PySem.Spec
namespace Mine
theorem OD.cong' {c : CL} {st st' : CS} {es : List DictEntry} (O : OD c st es) (h1 : st'.sz = st.sz) (h2 : st'.room = st.room) (h3 : st'.fch = st.fch) (h4 : roomOf st'.sz st'.pairs = roomOf st.sz st.pairs) : OD c st' es :=
  ⟨O.data, h1 ▸ O.size, h1 ▸ O.gets, h4 ▸ O.cur, h2 ▸ O.max, h3 ▸ O.choice, O.index, O.keys, O.m1, O.m2, O.m3, O.m4, O.m5, O.m6, O.m7, O.short⟩
theorem news7r {g h : Heap} {L : Addr} {e1 e2 e3 e4 e5 e6 e7 : Addr × Obj} {r : List (Addr × Obj)} (N : News g L h (e1 :: e2 :: e3 :: e4 :: e5 :: e6 :: e7 :: r)) : ∀ p ∈ r, h.get? p.1 = some p.2 ∧ g.get? p.1 = none :=
  fun p hp => let q := N p (List.mem_append_right [e1, e2, e3, e4, e5, e6, e7] hp); ⟨q.1, q.2.2⟩
theorem fresh_g {h g' : Heap} {a : Addr} {S : List Addr} (hg : ∀ b o, h.get? b = some o → b ∉ S → g'.get? b = some o) (e : g'.get? a = none) (hS : a ∉ S) : h.get? a = none := by
  cases q : h.get? a with
  | none => rfl
  | some o' => rw [hg _ _ q hS] at e; cases e
theorem whl_split {P T F : Prop} [Decidable P] (h1 : P → T) (h2 : ¬ P → F) : WhlIf (decide P) T F := by
  by_cases h : P
  · exact WhlIf.yes (decide_eq_true h) (h1 h)
  · exact WhlIf.no (decide_eq_false h) (h2 h)
inductive StepE (M : Int → Tok → Str → Option Value) (D : List (Int × Int) → Int) (h₀ : Heap) (L : Addr) (s : Shared) (w : World) (c : CL) (nums : List Int) (st : CS) (key size : Int) (sh₀ : List (List Int)) (us₀ : List Value) (n : Nat) (f : Flow) (s₃ : Shared) : Prop
  | mk (ef : f = .next) (h' : Heap) (tk : Nat) (n' : Nat) (o' : CO) (st' : CS) (r : List (Addr × Obj)) (sh : List (List Int)) (t : Tok) (es : s₃ = { s with heap := h', toks := tk }) (F : Fr h₀ L h' (M (D st'.pairs) t)) (N : News h₀ L h' (c.led o' ++ r)) (J : EvI w c nums st key size sh₀ us₀ n' o' st' r sh) (hl : n' < n)
section
variable {prog : Program} {w : World} {A : Around} {Q : Flow → Shared → Prop} {s : Shared} {env : Env} {h₀ : Heap} {L : Addr} {test : PySem.Expr} {body : List Stmt} {pos : Pos} {m : Str → Option Value}
  {c : CL} {o : CO} {nums : List Int} {st : CS} {key : Int} {sh₀ : List (List Int)} {n₀ : Nat} {t₀ : Tok}
theorem ev_loop (M : Int → Tok → Str → Option Value) (D : List (Int × Int) → Int) (size : Int) (F : Fr h₀ L s.heap (M (D st.pairs) t₀)) (N : News h₀ L s.heap (c.led o)) (J : EvI w c nums st key size sh₀ o.us n₀ o st [] [])
    (turn : ∀ n h₁ tk₁ o' st' r sh t, Fr h₀ L h₁ (M (D st'.pairs) t) → News h₀ L h₁ (c.led o' ++ r) → EvI w c nums st key size sh₀ o.us n o' st' r sh →
      wpAny (model prog w) A (isTrue test env (eval test env)) (fun b s₂ =>
        WhlIf b (wpAny (model prog w) A (execs body env) (StepE M D h₀ L s w c nums st key size sh₀ o.us n) (fun _ _ => False) s₂) (Q .next s₂)) (fun _ _ => False) { s with heap := h₁, toks := tk₁ }) :
    wpAny (model prog w) A (exec (.While test body [] pos) env) Q (fun _ _ => False) s := by
  refine While_inv (fun n m₁ news₁ => ∃ o' st' r sh t, m₁ = M (D st'.pairs) t ∧ news₁ = c.led o' ++ r ∧ EvI w c nums st key size sh₀ o.us n o' st' r sh) F N ⟨o, st, [], [], t₀, rfl, (List.append_nil _).symm, J⟩ ?_ PassesOwn.never
  rintro n m₁ news₁ h₁ tk₁ F₁ N₁ ⟨o', st', r, sh, t, rfl, rfl, J₁⟩
  refine wpAny_mono (turn n h₁ tk₁ o' st' r sh t F₁ N₁ J₁) (fun b s₂ h₂ => ?_) fun _ _ h => h
  cases b with
  | false => unfold WhlIf at h₂; rw [if_neg Bool.false_ne_true] at h₂ ⊢; exact h₂
  | true =>
    unfold WhlIf at h₂; rw [if_pos rfl] at h₂ ⊢
    refine wpAny_mono h₂ (fun f s₃ h₃ => ?_) fun _ _ h => h
    obtain ⟨rfl, h', tk, n', o₂, st₂, r₂, sh₂, t₂, rfl, F₂, N₂, J₂, hn⟩ := h₃
    exact WhileStep.intro F₂ N₂ hn ⟨o₂, st₂, r₂, sh₂, t₂, rfl, rfl, J₂⟩
theorem ev_loop0 (size : Int) (F : Fr h₀ L s.heap m) (N : News h₀ L s.heap (c.led o)) (J : EvI w c nums st key size sh₀ o.us n₀ o st [] [])
    (turn : ∀ n h₁ tk₁ o' st' r sh, Fr h₀ L h₁ m → News h₀ L h₁ (c.led o' ++ r) → EvI w c nums st key size sh₀ o.us n o' st' r sh →
      wpAny (model prog w) A (isTrue test env (eval test env)) (fun b s₂ =>
        WhlIf b (wpAny (model prog w) A (execs body env) (StepE (fun _ _ => m) (fun _ => 0) h₀ L s w c nums st key size sh₀ o.us n) (fun _ _ => False) s₂) (Q .next s₂)) (fun _ _ => False) { s with heap := h₁, toks := tk₁ }) :
    wpAny (model prog w) A (exec (.While test body [] pos) env) Q (fun _ _ => False) s :=
  ev_loop (t₀ := 0) (fun _ _ => m) (fun _ => 0) size F N J fun n h₁ tk₁ o' st' r sh _ F₁ N₁ J₁ => turn n h₁ tk₁ o' st' r sh F₁ N₁ J₁
theorem ev_loopD {x : Str} (D : List (Int × Int) → Int) (size : Int) (F : Fr h₀ L s.heap (fun y => if y = x then some (.int (D st.pairs) t₀) else m y)) (N : News h₀ L s.heap (c.led o)) (J : EvI w c nums st key size sh₀ o.us n₀ o st [] [])
    (turn : ∀ n h₁ tk₁ o' st' r sh t, Fr h₀ L h₁ (fun y => if y = x then some (.int (D st'.pairs) t) else m y) → News h₀ L h₁ (c.led o' ++ r) → EvI w c nums st key size sh₀ o.us n o' st' r sh →
      wpAny (model prog w) A (isTrue test env (eval test env)) (fun b s₂ =>
        WhlIf b (wpAny (model prog w) A (execs body env) (StepE (fun d t y => if y = x then some (.int d t) else m y) D h₀ L s w c nums st key size sh₀ o.us n) (fun _ _ => False) s₂) (Q .next s₂)) (fun _ _ => False) { s with heap := h₁, toks := tk₁ }) :
    wpAny (model prog w) A (exec (.While test body [] pos) env) Q (fun _ _ => False) s :=
  ev_loop (t₀ := t₀) (fun d t y => if y = x then some (.int d t) else m y) D size F N J turn
end
end Mine
end
section
open PySem PySem.W PySem.Calls PyProof.Rows PyProof.V PySem.Spec
namespace Mine
section
variable {prog : Program} {w : World} {A : Around} {E : Value → Shared → Prop} {s : Shared} {K : Frag} {x C L p : Addr} {h₀ : Heap} {m : Str → Option Value} {ox : Obj} {es : List DictEntry} {n : Nat} {name : Str} {v gg fv : Value} {rest : List Value}
/-- an object's own entry ahead of a staticmethod of its class -/
theorem get_ownS {expr : Bool} {Q : Value → Shared → Prop} (F : Fr h₀ L s.heap m) (X₀ : K.In h₀) (I : InstAt s.heap x ox C (some (dictOf es n))) (hg : plainGet K C name = true) (hh : hasDictIn K C = true)
    (ha : findIn K (.ref C) name = some (some (.ref p))) (hgf : specialIn K (.ref p) "__get__" = some (some gg)) (hts : takesIn K (.ref p) = some false) (hl : getL name es = some (some v)) (hv : handedIn v = true) (h : Q v { s with toks := s.toks + 1 }) :
    wpAny (model prog w) A (getAttr (.ref x) name expr) Q E s := by
  refine get_value (X₀.keeps F.keep) I (plainGet_of hg).1 ?_ hv h
  obtain ⟨cd, hc, hd⟩ := any_some hh
  unfold findObj
  rw [hc, Option.bind_some, ha, Option.bind_some]
  have ho : PySem.W.ownOf cd (some (dictOf es n)) name = some (some v) := by unfold PySem.W.ownOf; rw [if_pos hd]; exact (lookIn_dict ..).trans hl
  simp [hgf, hts, ho]
theorem get_smI {expr : Bool} {Q : Value → Shared → Prop} (F : Fr h₀ L s.heap m) (X₀ : K.In h₀) (I : InstAt s.heap x ox C (some (dictOf es n))) (hg : plainGet K C name = true) (hh : hasDictIn K C = true)
    (ha : findIn K (.ref C) name = some (some (.ref p))) (hgf : specialIn K (.ref p) "__get__" = some (some (.builtin "staticmethod.__get__"))) (hts : takesIn K (.ref p) = some false) (hc : copiedNames.contains name = false) (hl : getL name es = some none) (hp : recIn K p "staticmethod" = some (fv :: rest)) (hv : handedIn fv = true)
    (h : Q fv { s with toks := s.toks + 1 }) : wpAny (model prog w) A (getAttr (.ref x) name expr) Q E s :=
  get_bind (X₀.keeps F.keep) I (plainGet_of hg).1 (findObj_fn hh ha hgf hts hc (by show lookIn name (dictOf es n) = _; rw [lookIn_dict, hl])) (plainGet_of hg).2
      (wpAny_call (sm_get (s := { s with toks := s.toks + 1 }) (X₀.keeps F.keep) hp (handed_on hv h)))
theorem meth_ownS {pl : Sem Bool} {Q : Value × List Value → Shared → Prop} (F : Fr h₀ L s.heap m) (X₀ : K.In h₀) (I : InstAt s.heap x ox C (some (dictOf es n))) (hg : plainGet K C name = true) (hh : hasDictIn K C = true)
    (ha : findIn K (.ref C) name = some (some (.ref p))) (ht : typeIn K (.ref p) = some (.type "staticmethod")) (hgf : specialIn K (.ref p) "__get__" = some (some gg)) (hts : takesIn K (.ref p) = some false) (hl : getL name es = some (some v)) (hv : handedIn v = true)
    (h : Q (v, []) { s with toks := s.toks + 1 }) : wpAny (model prog w) A (getMethod (.ref x) name pl) Q E s :=
  method_usual (r := some (.ref p)) (X₀.keeps F.keep) I (plainGet_of hg).1 (plainGet_of hg).2 ha (by simp only [Option.all_some, ht, Option.any_some]; decide +kernel)
    (get_ownS F X₀ I hg hh ha hgf hts hl hv h)
end
end Mine
end
section
open PySem PySem.W PySem.Calls PyProof.Rows PyProof.V PySem.Spec
namespace Mine
def diffOf (k v : Int) (pairs : List (Int × Int)) : Int := if kdfHas pairs k = true then sizeOf v - sizeOf (kdfLook pairs k 0) else sizeOf v
theorem diff_room {k v : Int} {pairs : List (Int × Int)} (h : (pairs.map (·.1)).Nodup) : roomOf true (delI pairs k) + sizeOf v = roomOf true pairs + diffOf k v pairs := by
  unfold diffOf
  by_cases q : kdfHas pairs k = true
  · rw [if_pos q, room_del true h q, if_pos rfl]; omega
  · rw [if_neg q, del_off (Bool.eq_false_iff.mpr q)]
theorem diff_put {k v : Int} {pairs : List (Int × Int)} (h : (pairs.map (·.1)).Nodup) : roomOf true (kdfPut pairs k v) = roomOf true pairs + diffOf k v pairs := by
  by_cases q : kdfHas pairs k = true
  · rw [room_put_in true h q, if_pos rfl, diff_room h]
  · have q' := Bool.eq_false_iff.mpr q
    rw [room_put_off true q', if_pos rfl]; unfold diffOf; rw [if_neg q]
theorem diff_del {k v p : Int} {pairs : List (Int × Int)} (h : kdfHas (delI pairs p) k = true) : diffOf k v (delI pairs p) = diffOf k v pairs := by
  have hne : k ≠ p := fun e => by rw [e, has_del_self] at h; cases h
  have h2 : kdfHas pairs k = true := by rw [has_del_other hne] at h; exact h
  unfold diffOf; rw [if_pos h, if_pos h2, look_del hne]
theorem diff_off {k v : Int} {pairs : List (Int × Int)} (h : kdfHas pairs k = false) : diffOf k v pairs = sizeOf v := by unfold diffOf; rw [h, if_neg (by decide)]
theorem fr_cong {g h : Heap} {L : Addr} {m m' : Str → Option Value} (F : Fr g L h m) (e : ∀ y, m y = m' y) : Fr g L h m' := (funext e : m = m') ▸ F
theorem hus_of {w : World} {c : CL} {o' : CO} {st st' : CS} {nums : List Int} {key size : Int} {sh₀ : List (List Int)} {us₀ : List Value} {n : Nat} {r : List (Addr × Obj)} {sh : List (List Int)} (J : EvI w c nums st key size sh₀ us₀ n o' st' r sh) : o'.us.length = us₀.length + sh.length := by
  rw [J.us, List.length_append]; unfold refsOf; rw [List.length_map, J.seen.length]
theorem own_of {r : List (Addr × Obj)} {S : List Addr} (h : ∀ p ∈ r, p.1 ∉ S) : OwnOff r S := fun p hp _ hb e => h p hp (e ▸ hb)
theorem EvI.hoff {w : World} {c : CL} {o' : CO} {st st' : CS} {nums : List Int} {key size k : Int} {sh₀ : List (List Int)} {us₀ : List Value} {n : Nat} {r : List (Addr × Obj)} {sh : List (List Int)} (J : EvI w c nums st key size sh₀ us₀ n o' st' r sh) (h : kdfHas st.pairs k = false) : kdfHas st'.pairs k = false := by
  cases q : kdfHas st'.pairs k with
  | false => rfl
  | true => have q2 := J.sub k q; rw [h] at q2; cases q2
end Mine
end
section
open PySem PySem.W PySem.Calls PyProof.Rows PyProof.V PySem.Spec
namespace Mine
theorem bounds_all (n : Nat) : sliceBounds none none none n = ((0 : Int), (n : Int), 1) := by simp [sliceBounds]
section
variable {prog : Program} {w : World} {A : Around} {E : Value → Shared → Prop} {s : Shared}
theorem delItem_all {l sl : Addr} {items : Array Value} {n : Nat} {Q : Unit → Shared → Prop} (hl : s.heap.get? l = some (listOf items n)) (hs : s.heap.IsSliceOf sl .none .none .none) (hsz : items.size ≤ sizeLine)
    (h : ∀ f : Array Value → Array Value, f items = #[] → Q () { s with heap := s.heap.update l (Obj.mapSeq f) }) : wpAny (model prog w) A (delItem (.ref l) (.ref sl)) Q E s := by
  obtain ⟨os, hos, hcs, hds⟩ := id hs
  have hTs : s.TypeIs (.ref sl) "slice" := ⟨os, hos, hcs⟩
  have hT : s.TypeIs (.ref l) "list" := ⟨_, hl, rfl⟩
  refine wpAny_delItem_slot hT (by decide) PySem.F.slot_list_delitem (wpAny_call_entry PySem.F.slot_list_delitem hT PySem.F.entry_list_delitem ?_ (PySem.F.args_list_delitem_2 _ _))
  show wpAny _ _ (Builtin.List.listSubscript? (.ref sl) >>= _) _ _ s
  refine wpAny_bind ?_
  unfold Builtin.List.listSubscript?
  refine wpAny_bind (wpAny_specialOf hTs slice_no_index ?_)
  simp only [Option.isNone_none, if_true]
  refine wpAny_pure ?_
  show wpAny _ _ (typeOf (.ref sl) >>= _) _ _ s
  refine wpAny_bind (wpAny_typeOf hTs ?_)
  rw [if_neg (by decide)]
  rw [listSliceParts_eq]
  refine wpAny_bind (wpAny_bind (wpAny_field hos hds (x := .none) rfl (wpAny_bind (wpAny_listPart .none ?_))))
  rw [if_neg (by exact Bool.false_ne_true)]
  refine wpAny_bind (wpAny_field hos hds (x := .none) rfl (wpAny_bind (wpAny_listPart .none ?_)))
  refine wpAny_bind (wpAny_field hos hds (x := .none) rfl (wpAny_bind (wpAny_listPart .none (wpAny_pure ?_))))
  refine wpAny_bind (m := Builtin.List.listItems (.ref l)) ?_
  unfold Builtin.List.listItems
  refine wpAny_bind (wpAny_seqItems hl rfl (wpAny_pure ?_))
  refine wpAny_bind (wpAny_of_eq (sliceIndices_raw none none none items.size (by simp)) ?_)
  rw [bounds_all]
  refine wpAny_bind (wpAny_rule ?_)
  refine wpAny_bind ?_
  unfold Builtin.List.listUpdate
  have key : ∀ g : Value × Nat → Option Value, (∀ x k, k < items.size → g (x, k) = none) → (List.filterMap g items.toList.zipIdx).toArray = #[] := by
    intro g hg
    have : List.filterMap g items.toList.zipIdx = [] := by
      rw [List.filterMap_eq_nil_iff]
      rintro ⟨x, k⟩ hm
      refine hg x k ?_
      have := (List.mem_zipIdx hm).2.1
      simpa using this
    rw [this]
  have sel : ∀ k, k < items.size → (decide ((0 : Int) ≤ k) && decide ((k : Int) < items.size) && (((k : Int) - 0) % 1 == 0)) = true := by
    intro k hk
    simp only [Bool.and_eq_true, decide_eq_true_eq, beq_iff_eq]
    omega
  refine wpAny_updateSeq hl rfl ?_ hsz ?_
  · refine wpAny_bind (wpAny_letGo ?_)
    refine wpAny_pure ⟨_, rfl, h _ ?_⟩
    refine key _ fun x k hk => ?_
    have := sel k hk
    show (if (decide ((0 : Int) ≤ k) && decide ((k : Int) < items.size) && (((k : Int) - 0) % 1 == 0)) = true then none else some x) = none
    rw [if_pos this]
  · rw [key _ fun x k hk => ?_]
    · exact Nat.zero_le _
    · have := sel k hk
      show (if (decide ((0 : Int) ≤ k) && decide ((k : Int) < items.size) && (((k : Int) - 0) % 1 == 0)) = true then none else some x) = none
      rw [if_pos this]
theorem l_clear {g h : Heap} {L d : Addr} {m : Str → Option Value} {news : List (Addr × Obj)} {u : Obj → List (Addr × Obj)} {vs : List Value} {n : Nat} {Q : Unit → Shared → Prop} (F : Fr g L h m) (N : News g L h news) (U : UpdF d (listOf vs.toArray n) news u) (hs1 : vs.length ≤ 1000)
    (hh : s.heap = h.push { cls := .type "slice", data := .fields #[.none, .none, .none] })
    (hQ : ∀ h' n', Fr g L h' m → News g L h' (u (listOf ([] : List Value).toArray n')) → Q () { s with heap := h' }) : wpAny (model prog w) A (delItem (.ref d) (.ref h.objs.size)) Q E s := by
  obtain ⟨pre, post, rfl, hg, a, b⟩ := U.split
  have F1 := F.pushS { cls := .type "slice", data := .fields #[.none, .none, .none] }
  have N1 := N.pushKeep { cls := .type "slice", data := .fields #[.none, .none, .none] }
  rw [← hh] at F1 N1
  have z := N1 (d, listOf vs.toArray n) (List.mem_append.mpr (.inr (.head _)))
  refine delItem_all z.1 (hh ▸ Heap.IsSliceOf.new h .none .none .none) (by rw [sizeLine_eq, List.size_toArray]; omega) fun f hf => ?_
  by_cases q : vs.toArray.size = 0
  · exact hQ _ n (F1.change (Heap.SameBut.update ..) z.2.1 z.2.2) (hg _ ▸ kl_turn0 f N1 a b hf (by rw [q]; rfl))
  · exact hQ _ (n + 1) (F1.change (Heap.SameBut.update ..) z.2.1 z.2.2) (hg _ ▸ kl_turn f N1 a b hf (fun e => q e.symm))
end
end Mine
end
section
open PySem PySem.W PySem.Calls PyProof.Rows PyProof.V PySem.Spec
namespace Mine
/-- a method of the cache that raises, and leaves all as it was -/
def RSpecH (hd₀ : Option Value → Prop) (w : World) (d : Nat) (f : Addr) (args : List Value) (X : String) (led : List (Addr × Obj)) : Prop :=
  ∀ (A : Around) (s : Shared) (base G : Heap) (outer : List Env) (R : Result → Shared → Prop) (p : Program) (loose : List Str) (mean : ExcName → Option Value) (mg mb : Str → Option Value),
    Below A base outer G → G.StaysIn s.heap → (∀ q ∈ led, s.heap.get? q.1 = some q.2 ∧ G.get? q.1 = none) → G.objs.size ≤ s.heap.objs.size → (KK w.params).In G → Top p loose mean mg mb G →
    (KK w.params).In base → Top p loose mean mg mb base → KtsDicts (outer.filterMap (·.frame)) G →
    A.depth + d < recursionLimit → A.units + 20 * d < cLine → hd₀ A.handled →
    (∀ h' tk e, RaisedSN base G outer e (.type X) led h' → G.UpToSlots h' → R (.error (.ref e)) { s with heap := h', toks := tk }) →
    codeAny (model PG w) A (.call (.ref f) ⟨args, []⟩) R s
abbrev RSpec (w : World) (d : Nat) (f : Addr) (args : List Value) (X : String) (c : CL) (o : CO) : Prop := RSpecH (· = none) w d f args X (c.led o)
section
variable {hd₀ : Option Value → Prop} {w : World} {d : Nat} {f : Addr} {args : List Value} {X : String} {led : List (Addr × Obj)} {A₀ A' : Around} {s : Shared} {base g : Heap} {outer : List Env} {L a : Addr} {m : Str → Option Value} {cn : Str} {cs : Scope} {ccd : Value}
  {p : Program} {loose : List Str} {mean : ExcName → Option Value} {mg mb : Str → Option Value} {Q E : Value → Shared → Prop}
theorem RSpecH.use (S : RSpecH hd₀ w d f args X led) (B : Below A₀ base outer g) (F : Fr g L s.heap m) (N : News g L s.heap led) (hA : A'.frames = some (envOf cn cs L a ccd :: outer)) (hck : cs.kind = .function)
    (X₀ : (KK w.params).In g) (T : Top p loose mean mg mb g) (XB : (KK w.params).In base) (TB : Top p loose mean mg mb base) (D : KtsDicts (outer.filterMap (·.frame)) g)
    (hd' : A'.depth + d < recursionLimit) (hu : A'.units + 20 * d < cLine) (hh : hd₀ A'.handled)
    (h : ∀ h' tk e G, Fr g L G m → RaisedSN base G (envOf cn cs L a ccd :: outer) e (.type X) led h' → G.UpToSlots h' → E (.ref e) { s with heap := h', toks := tk }) :
    wpAny (model PG w) A' (call (.ref f) args) Q E s := by
  obtain ⟨oL, es, ep, hLg, hLd, hN, hNs, st, B₂⟩ := kts_enter B F N hA hck
  refine wpAny_call (S A' s base _ _ _ p loose mean mg mb B₂ (fun b o e => of_hideAll _ e) (fun q hq => ⟨(N q hq).1, hideAll_none _ (List.mem_map_of_mem hq)⟩) (Nat.le_of_eq (hideAll_size _ _)) (X₀.keeps st) (T.keeps st) XB TB (fun b hb => ?_) hd' hu hh fun h' tk e R U => h h' tk e _ ⟨hN _ hLg, st, F.above⟩ R U)
  rcases kts_mem hb with rfl | z
  · exact ⟨oL, es, ep, hLg, hLd⟩
  · obtain ⟨o', es', n', e1, e2⟩ := D b z
    exact ⟨o', es', n', st _ _ e1, e2⟩
end
/-- an exception just made -/
structure ExcN (h h' : Heap) (e : Addr) (cls : String) : Prop where
  keeps : ∀ b o, h.get? b = some o → h'.get? b = some o
  new : h.get? e = none
  there : ∃ ob vs a0, h'.get? e = some ob ∧ ob.cls = .type cls ∧ ob.data = .fields vs ∧ vs[1]? = some .none ∧ vs[0]? = some a0
theorem ExcN.of {h h' : Heap} {e : Addr} {cls : String} (x : Heap.NewExc h h' e cls) : ExcN h h' e cls := ⟨x.keeps, x.new, let ⟨ob, t, a, b, d⟩ := x.there; ⟨ob, _, t, a, b, d, rfl, rfl⟩⟩
theorem ExcN.made {h h' : Heap} {e : Addr} {cls : String} {vs : List Value} (x : Heap.MadeExcOf h h' e (.type cls) vs) : ExcN h h' e cls := ⟨x.keeps, x.new, let ⟨t, a, _, _⟩ := x.there; ⟨_, _, .ref t, a, rfl, rfl, rfl, rfl⟩⟩
theorem ExcN.made' {h h' : Heap} {e : Addr} {cls : String} {vs : List Value} (x : Heap.MadeExc h h' e cls vs) : ExcN h h' e cls := .of x.newExc
section
variable {M : Model} {A : Around} {E : Value → Shared → Prop} {s' : Shared} {base g h : Heap} {outer : List Env} {L a e : Addr} {m : Str → Option Value} {name : Str} {scope : Scope} {cd : Value} {Q : Unit → Shared → Prop} {news : List (Addr × Obj)}
theorem leave_first {cls : String} (K : Below A base outer g) (hx : ExcN h s'.heap e cls) (F : Fr g L h m) (N : News g L h news)
    (hQ : ∀ h', RaisedSN base g outer e (.type cls) news h' → g.UpToSlots h' → Q () { s' with heap := h' }) (hk : scope.kind = .function) :
    wpAny M (A.deeper (envOf name scope L a cd)) (leaving (envOf name scope L a cd) (.ref e)) Q E s' := by
  have K' := K.push (name := name) (a := a) (cd := cd) F hk
  generalize hfs : (envOf name scope L a cd :: outer).filterMap (·.frame) = fs at *
  have inF : ∀ b, b ∈ fs → b = L ∨ b ∈ outer.filterMap (·.frame) := fun b hb => kts_mem (hfs ▸ hb)
  have keep1 : ∀ b o, g.get? b = some o → b ∉ outer.filterMap (·.frame) → (hideAll h fs).get? b = some o := fun b o q nm => hideAll_get _ (F.keep b o q) fun hm => by
    rcases inF b hm with z | z
    · rw [z, kts_self F] at q; cases q
    · exact nm z
  have keep0 : base.StaysIn (hideAll h fs) := fun b o q => keep1 b o (K.stays b o q) fun hm => by
    rw [(K.frames.mem hm).1] at q; cases q
  have keepN : ∀ q ∈ news, (hideAll h fs).get? q.1 = some q.2 ∧ g.get? q.1 = none ∧ base.get? q.1 = none := fun q hq => by
    obtain ⟨n1, n2, n3⟩ := N q hq
    refine ⟨hideAll_get _ n1 fun hm => ?_, n3, kts_none K.stays n3⟩
    rcases inF _ hm with z | z
    · exact n2 z
    · obtain ⟨o, ho, _⟩ := (K.frames.mem z).2
      rw [n3] at ho; cases ho
  obtain ⟨ob, vs, a0, he, hcls, hd, v1, v0⟩ := hx.there
  have hen : (hideAll h fs).get? e = none := kts_none (fun b o q => of_hideAll _ q) hx.new
  have hfr := funFrames_hide K'.frames (as := fs) fun env he b hb => hfs ▸ List.mem_filterMap.mpr ⟨env, he, hb⟩
  refine wpAny_leaving_firstW (a0 := a0) K'.stack (hfr.of_keeps fun b o hb _ => ⟨o, hx.keeps b o hb, rfl⟩) rfl he (fun b o hb => hx.keeps b o (of_hideAll _ hb)) hen hd v1 v0 fun h' hL => ?_
  obtain ⟨k1, ⟨_, _, k2⟩, k3, k4⟩ := hL
  exact hQ h' ⟨_, a0, keep0, keep1, keepN, k1, hen, k2, by rw [← hcls]; exact k3⟩ (((Heap.UpToSlots.of_keeps F.keep).trans (Heap.UpToSlots.of_keeps hx.keeps)).trans k4)
end
section
variable {prog : Program} {w : World} {A : Around} {s : Shared} {K : Frag} {p : Program} {loose : List Str} {mean : ExcName → Option Value} {mg mb : Str → Option Value}
  {G : Heap} {f : Addr} {R : Result → Shared → Prop} {name qual : Str} {params : Arguments} {body : List Stmt} {scope : Scope} {dV kV doc pm cdv ct oc : Value} {an od : Option Addr} {osl : Array (Option Value)}
  {args : Args} {binds : List (Str × Value)} {led : List (Addr × Obj)}
/-- into a def that raises -/
theorem enterR (hG : G.StaysIn s.heap) (hN : ∀ q ∈ led, s.heap.get? q.1 = some q.2 ∧ G.get? q.1 = none) (hz : G.objs.size ≤ s.heap.objs.size) (X : K.In G) (T : Top p loose mean mg mb G)
    (ho : K.lookup f = some ⟨oc, od, .func (fnOf name qual params body scope dV kV doc pm an cdv ct), osl⟩) (hcd : codeIn K cdv qual = true) (hroom : A.depth < recursionLimit)
    (hbind : BindsTo s (fnOf name qual params body scope dV kV doc pm an cdv ct) args binds) (hloc : ∀ y ∈ binds, scope.names.lookup y.1 = some .local)
    (h : ∀ L' h₁, Fr G L' h₁ (fun y => binds.reverse.lookup y) → News G L' h₁ led →
      wpAny (model prog w) (A.deeper (envOf qual scope L' f cdv)) (execs body (envOf qual scope L' f cdv)) (Fin R)
        (fun e s' => wpAny (model prog w) (A.deeper (envOf qual scope L' f cdv)) (leaving (envOf qual scope L' f cdv) e) (fun _ s'' => R (.error e) s'') (fun e' s'' => R (.error e') s'') s') { s with heap := h₁, toks := s.toks + binds.length })
    (hco : scope.isCoroutine = false := by exact rfl) (hgen : scope.isGenerator = false := by exact rfl) (hk : scope.kind = .function := by exact rfl)
    (hcell : ∀ x ∈ scope.names, x.2 ≠ .cell := by decide) : codeAny (model prog w) A (.call (.ref f) args) R s := by
  refine codeAny_call_def (fd := fnOf name qual params body scope dV kV doc pm an cdv ct) (body := body) (binds := binds) hroom ((X.keeps hG) _ _ ho) rfl (T.nolimit.keeps hG) (codeRec_of (X.keeps hG) hcd) rfl hbind hcell hloc (fun h₁ hns hk₁ => ?_) hco hgen hk
  exact h _ h₁ ⟨hns, fun b o e => hk₁ b o (hG b o e), hz⟩ (fun q hq => ⟨hk₁ _ _ (hN q hq).1, Nat.ne_of_lt (Heap.lt_size (hN q hq).1), (hN q hq).2⟩)
end
end Mine
end
section
open PySem PySem.W PySem.Calls PyProof.Rows PyProof.V PySem.Spec
namespace Mine
section
variable {w : World} {A : Around} {E : Value → Shared → Prop} {s : Shared} {g : Heap} {L d : Addr} {m : Str → Option Value} {news : List (Addr × Obj)} {oD : Obj} {c : List (Int × Int)} {k : Int} {t : Tok}
theorem d_miss {value slice : PySem.Expr} {Q : Value → Shared → Prop} (N : News g L s.heap news) (hm : (d, oD) ∈ news) (lo : (d == sysModules) = false) (D : DI w oD c) (hk : kdfHas c k = false) (hh : A.handled = none)
    (h : ∀ h' e, Heap.NewExc s.heap h' e "KeyError" → E (.ref e) { s with heap := h', toks := s.toks + 1 })
    (hs : subscripted slice false (.ref d) (.int k t) = operate [.ref d, .int k t] (getItem (.ref d) (.int k t)) := by with_unfolding_all rfl) (hg : ∀ r, letTemporaryGo value (.ref d) r = pure () := by intro _; with_unfolding_all rfl) :
    wpAny (model PG w) A (subscriptTail value slice (.ref d) (.int k t)) Q E s := item_intTab_missing (D.tab N hm lo) hh (kdfD_none hk) h hs hg
theorem flat_none {kvs : List (Int × Value)} {D : List (PyData × PyData)} (f : FlatPairs PyData.int kvs D) {k : Int} (h : PySem.Spec.lookup (PyData.int k) D = none) : valueAt kvs k = none := f.none_of_lookup same_int h
theorem d_del_miss {Q : Unit → Shared → Prop} (N : News g L s.heap news) (hm : (d, oD) ∈ news) (lo : (d == sysModules) = false) (D : DI w oD c) (hk : kdfHas c k = false) (hh : A.handled = none)
    (h : ∀ h' e, Heap.NewExc s.heap h' e "KeyError" → E (.ref e) { s with heap := h', toks := s.toks + 1 }) : wpAny (model PG w) A (delItem (.ref d) (.int k t)) Q E s := by
  obtain ⟨kvs, a, b⟩ := D
  have hD : s.heap.DictOf (intKind PG w) d kvs := Heap.dictOf_iff.mpr ⟨oD, (N _ hm).1, a⟩
  exact wpAny_delItem_slot hD.typeIs (by decide) PySem.F.slot_dict_delitem (call_meetsIn PySem.F.slot_dict_delitem hD.typeIs PySem.F.entry_dict_delitem (PySem.F.args_dict_delitem_2 _ _) (meets_dict_delitem_missing (intKind PG w) d (intKind_is _ _ _ _) lo) ⟨hh, kvs, hD, flat_none b (kdfD_none hk), h⟩)
theorem d_pop_miss {Q : Value → Shared → Prop} (N : News g L s.heap news) (hm : (d, oD) ∈ news) (lo : (d == sysModules) = false) (D : DI w oD c) (hk : kdfHas c k = false) (hh : A.handled = none)
    (h : ∀ h' e, Heap.NewExc s.heap h' e "KeyError" → E (.ref e) { s with heap := h', toks := s.toks + 1 }) : wpAny (model PG w) A (call (.builtin "dict.pop") [.ref d, .int k t]) Q E s := by
  obtain ⟨kvs, a, b⟩ := D
  have hD : s.heap.DictOf (intKind PG w) d kvs := Heap.dictOf_iff.mpr ⟨oD, (N _ hm).1, a⟩
  exact call_meetsIn PySem.F.slot_dict_pop hD.typeIs PySem.F.entry_dict_pop (PySem.F.args_dict_pop_2 _ _) (meets_dict_pop_missing (intKind PG w) d (intKind_is _ _ _ _) lo rfl) ⟨hh, kvs, hD, flat_none b (kdfD_none hk), h⟩
end
end Mine
end
section
open PySem PySem.W PySem.Calls PyProof.Rows PyProof.V PySem.Spec
namespace Mine
def RaisableN (E : Value → Shared → Prop) (v : Value) (s₁ : Shared) : Prop :=
  ∃ h a X N I, ExcClass X N I ∧ v = .ref a ∧ Heap.NewExc h s₁.heap a X ∧ ∀ h', ExcN h h' a X → E (.ref a) { s₁ with heap := h' }
section
variable {A : Around} {E : Value → Shared → Prop} {s : Shared} {env : Env}
theorem call_exc_raiseN {prog : Program} {w : World} {X N I : String} (hc : ExcClass X N I) {rest : List Value}
    (h : ∀ h' e, ExcN s.heap h' e X → E (.ref e) { s with heap := h' }) (hrest : rest.length ≤ sizeLine := by size_fits) : wpAny (model prog w) A (call (.type X) rest) (RaisableN E) E s :=
  call_exc (hrest := hrest) hc fun _ e hx => ⟨s.heap, e, X, N, I, hc, rfl, hx, fun h' hx' => h h' e hx'⟩
theorem Raise_none {prog : Program} {w : World} {e : PySem.Expr} {kd : Nat} {cp pos : Pos} {Q : Flow → Shared → Prop} (hh : A.handled = none)
    (h : wpAny (model prog w) A (eval e env) (RaisableN E) E s) : wpAny (model prog w) A (exec (.Raise (some e) (some (.Constant .none kd cp)) pos) env) Q E s := by
  show wpAny (model prog w) A (do standAt pos; raiseStmt env (some (do let v ← eval e env; standAt pos; pure v)) (some (do let v ← eval (.Constant .none kd cp) env; standAt pos; pure v))) Q E s
  refine wpAny_bind (wpAny_standAt ?_)
  unfold raiseStmt
  dsimp only
  refine wpAny_bind (wpAny_bind (wpAny_mono h (fun v s₁ h₁ => wpAny_bind (wpAny_standAt (wpAny_pure ?_))) fun _ _ x => x))
  obtain ⟨h0, a, X, N, I, hc, rfl, hx, hE⟩ := h₁
  obtain ⟨ob, tt, ha, hcls, hd⟩ := hx.there
  have hT : s₁.TypeIs (.ref a) X := ⟨ob, ha, hcls⟩
  refine wpAny_bind (wpAny_holding ?_)
  refine wpAny_bind (wpAny_Constant_none ?_)
  refine wpAny_bind (wpAny_standAt ?_)
  refine wpAny_pure ?_
  refine wpAny_bind (wpAny_pure ?_)
  refine wpAny_bind (wpAny_holding ?_)
  unfold excFromValue isExcClass
  have hnt : ∀ {s₂ : Shared} {vs : Array Value} {ob : Obj}, s₂.heap.get? a = some ob → ob.data = .fields vs → ∀ {Q' : Bool → Shared → Prop}, Q' false s₂ → wpAny (model prog w) A (isType (.ref a)) Q' E s₂ := by
    intro s₂ vs ob ha hd Q' hq
    simp only [isType, loadHead]
    refine wpAny_bind (wpAny_loadPart ha ?_)
    rw [hd]; exact wpAny_pure hq
  refine wpAny_bind (wpAny_bind (hnt ha hd ?_))
  simp only [Bool.false_eq_true, if_false]
  refine wpAny_pure ?_
  simp only [Bool.false_eq_true, if_false]
  refine wpAny_bind (wpAny_isInstance hT hc.base ?_)
  simp only [if_true]
  refine wpAny_pure ?_
  rw [if_pos (by rfl)]
  refine wpAny_bind (wpAny_pure ?_)
  have hfr := (Heap.get?_some_iff.mp ha).2
  refine wpAny_bind (wpAny_setField ha hd (by simp) ?_)
  have ha1 := Heap.get?_update_self (Obj.mapFields (·.setIfInBounds 3 Value.none)) ha (Obj.isFreed_of_fields (Obj.data_mapFields hd _))
  have hd1 := Obj.data_mapFields hd (·.setIfInBounds 3 Value.none)
  refine wpAny_bind (wpAny_setField ha1 hd1 (by simp) ?_)
  have ha2 := Heap.get?_update_self (Obj.mapFields (·.setIfInBounds 4 (Value.bool true))) ha1 (Obj.isFreed_of_fields (Obj.data_mapFields hd1 _))
  have hd2 := Obj.data_mapFields hd1 (·.setIfInBounds 4 (Value.bool true))
  have hc2 : (Obj.mapFields (fun x => x.setIfInBounds 4 (Value.bool true)) (Obj.mapFields (fun x => x.setIfInBounds 3 Value.none) ob)).cls = .type X := (Obj.cls_mapFields ..).trans ((Obj.cls_mapFields ..).trans hcls)
  refine wpAny_bind (hnt ha2 hd2 ?_)
  simp only [Bool.false_eq_true, if_false]
  unfold raisedInstance
  refine wpAny_bind (wpAny_bind (wpAny_typeOf ⟨_, ha2, hc2⟩ (wpAny_bind (m := typeOf (.type X)) (wpAny_pure ?_))))
  rw [if_pos hc.metaType]
  refine wpAny_pure ?_
  unfold setFlight raiseNew
  refine wpAny_bind (wpAny_bind (wpAny_field ha2 hd2 (x := Value.none) (by rfl) ?_))
  rw [if_neg (by decide)]
  refine wpAny_pure (wpAny_bind (wpAny_handled ?_))
  rw [hh]
  have fin := hE _ ⟨fun b o e => ?_, hx.new, _, _, tt, ha2, hc2, hd2, rfl, rfl⟩
  first
    | exact wpAny_throw fin
    | exact wpAny_bind (wpAny_pure (wpAny_throw fin))
  · have hne : a ≠ b := fun q => by rw [← q, hx.new] at e; cases e
    rw [Heap.get?_update_other _ _ hne, Heap.get?_update_other _ _ hne]
    exact hx.keeps b o e
end
end Mine
end
section
open PySem PySem.W PySem.Calls PyProof.Rows PyProof.V PySem.Spec Builtin Builtin.ObjectAttr Builtin.Getset_descriptor
namespace Mine
section
variable {prog : Program} {w : World} {A : Around} {E : Value → Shared → Prop} {s : Shared} {K : Frag} {R : Result → Shared → Prop} {C : Addr} {h₀ : Heap} {L : Addr} {m : Str → Option Value} {o : Obj} {v : Value}
theorem dga_tref (d tp : Value) (x : Addr) : descrGetArgs ⟨[d, .ref x, tp], []⟩ = pure (d, some (.ref x), given tp) := dga_obj d tp x
theorem tn_get {tp : Value} (X : K.In s.heap) (hl : K.lookup C = some o) (ht : typeIn K (.ref C) = some (.type "type")) (hs : o.slots[2]? = some (some v)) (h : R (.ok (.ret v)) s) :
    codeAny (model prog w) A (.call (.builtin "getset_descriptor.__get__") ⟨[.builtin "type.__name__", .ref C, tp], []⟩) R s := by
  obtain ⟨hh, g, dr, t, os⟩ := s
  have L0 : Looks (model prog w) hh (typeOf (.ref C)) (.type "type") := looks_typeIn X ht
  have L1 : Looks (model prog w) hh (isSubtype (.type "type") (.type "type")) true := Looks.of_pure (by rw [isSubtype_type]; kernel_rfl)
  refine codeAny_call_builtin KF.slot_gs.plain KF.entry_gs (KF.slot_gs.check _ _ _ _ _ _ _ _ ktyn_type (KF.args_gs _ _ _) ?_)
  unfold Builtin.«getset_descriptor.__get__» descrGet
  rw [dga_tref]
  refine wpAny_bind (wpAny_pure ?_)
  unfold descrGetter descrCheckInstance descrNameAndClass isInstance
  simp only [ktyn_owner]
  repeat lk
  refine ⟨Code.quiet_builtin _ (by decide +kernel), codeAny_builtin ktyn_entry ?_⟩
  unfold Builtin.«type.__name__»
  show wpAny _ _ (keptObject (.ref C) 2 "__name__" _) _ _ _
  unfold keptObject slotAt
  refine wpAny_bind (wpAny_bind (wpAny_loadPart (X _ _ hl) ?_))
  refine wpAny_pure ?_
  rw [hs]
  first
    | exact wpAny_pure h
    | exact wpAny_bind (wpAny_pure h)
    | (refine wpAny_bind ?_; exact wpAny_pure h)
theorem cls_name {expr : Bool} {Q : Value → Shared → Prop} (F : Fr h₀ L s.heap m) (X₀ : K.In h₀) (hl : K.lookup C = some o) (ht : typeIn K (.ref C) = some (.type "type")) (hr : readsIn K C (.type "type") = true)
    (e : findCls K (.ref C) (.type "type") "__name__" = some (.get (.builtin "getset_descriptor.__get__") (.builtin "type.__name__") (.ref C) (.type "type"))) (hs : o.slots[2]? = some (some v)) (hh : handedIn v = true)
    (h : Q v { s with toks := s.toks + 1 }) : wpAny (model prog w) A (getAttr (.ref C) "__name__" expr) Q E s :=
  cls_bind (X₀.keeps F.keep) hr e (wpAny_call (tn_get (s := { s with toks := s.toks + 1 }) (X₀.keeps F.keep) hl ht hs (handed_on hh h)))
end
end Mine
end
section
open PySem PySem.W PySem.Calls PyProof.Rows PyProof.V PySem.Spec
namespace Mine
theorem entry_unchain : entryFor table "proto.unchain" = some Builtin.«proto.unchain» := entryFor_of_fast (by kernel_rfl)
def RaisableB (b : Addr) (ob₁ : Obj) (E : Value → Shared → Prop) (v : Value) (s₁ : Shared) : Prop :=
  ∃ h a X N I, ExcClass X N I ∧ v = .ref a ∧ Heap.NewExc h s₁.heap a X ∧ h.get? b = some ob₁ ∧ ∀ h', ExcN h h' a X → E (.ref a) { s₁ with heap := h' }
section
variable {A : Around} {E : Value → Shared → Prop} {s : Shared} {env : Env}
theorem call_exc_raiseB {prog : Program} {w : World} {X N I : String} {b : Addr} {ob₁ : Obj} (hc : ExcClass X N I) {rest : List Value} (hb : s.heap.get? b = some ob₁)
    (h : ∀ h' e, ExcN s.heap h' e X → E (.ref e) { s with heap := h' }) (hrest : rest.length ≤ sizeLine := by size_fits) : wpAny (model prog w) A (call (.type X) rest) (RaisableB b ob₁ E) E s :=
  call_exc (hrest := hrest) hc fun _ e hx => ⟨s.heap, e, X, N, I, hc, rfl, hx, hb, fun h' hx' => h h' e hx'⟩
/-- a raise where another exception is being handled -/
theorem Raise_held {prog : Program} {w : World} {e : PySem.Expr} {pos : Pos} {Q : Flow → Shared → Prop} {b : Addr} {ob₁ : Obj} {vs₁ : Array Value} (hh : A.handled = some (.ref b)) (hbd : ob₁.data = .fields vs₁) (hb2 : vs₁[2]? = some .none)
    (h : wpAny (model prog w) A (eval e env) (RaisableB b ob₁ E) E s) : wpAny (model prog w) A (exec (.Raise (some e) none pos) env) Q E s := by
  show wpAny (model prog w) A (do standAt pos; raiseStmt env (some (do let v ← eval e env; standAt pos; pure v)) none) Q E s
  refine wpAny_bind (wpAny_standAt ?_)
  unfold raiseStmt
  dsimp only
  refine wpAny_bind (wpAny_bind (wpAny_mono h (fun v s₁ h₁ => wpAny_bind (wpAny_standAt (wpAny_pure ?_))) fun _ _ x => x))
  obtain ⟨h0, a, X, N, I, hc, rfl, hx, hb, hE⟩ := h₁
  have hb' := hx.keeps _ _ hb
  obtain ⟨ob, tt, ha, hcls, hd⟩ := hx.there
  have hT : s₁.TypeIs (.ref a) X := ⟨ob, ha, hcls⟩
  have hnt : ∀ {s₂ : Shared} {vs : Array Value} {ob : Obj}, s₂.heap.get? a = some ob → ob.data = .fields vs → ∀ {Q' : Bool → Shared → Prop}, Q' false s₂ → wpAny (model prog w) A (isType (.ref a)) Q' E s₂ := by
    intro s₂ vs ob ha hd Q' hq
    simp only [isType, loadHead]
    refine wpAny_bind (wpAny_loadPart ha ?_)
    rw [hd]; exact wpAny_pure hq
  refine wpAny_bind (wpAny_pure ?_)
  dsimp only
  refine wpAny_bind (wpAny_holding ?_)
  unfold excFromValue isExcClass
  refine wpAny_bind (wpAny_bind (hnt ha hd ?_))
  simp only [Bool.false_eq_true, if_false]
  refine wpAny_pure ?_
  simp only [Bool.false_eq_true, if_false]
  refine wpAny_bind (wpAny_isInstance hT hc.base ?_)
  simp only [if_true]
  refine wpAny_pure ?_
  refine wpAny_bind (hnt ha hd ?_)
  simp only [Bool.false_eq_true, if_false]
  unfold raisedInstance
  refine wpAny_bind (wpAny_bind (wpAny_typeOf hT (wpAny_bind (m := typeOf (.type X)) (wpAny_pure ?_))))
  rw [if_pos hc.metaType]
  refine wpAny_pure ?_
  unfold setFlight
  refine wpAny_bind (wpAny_bind (wpAny_field ha hd (x := Value.none) (by rfl) ?_))
  rw [if_neg (by decide)]
  refine wpAny_pure ?_
  unfold raiseNew
  refine wpAny_bind (wpAny_handled ?_)
  rw [hh]
  have hne : b ≠ a := fun q => by rw [q, hx.new] at hb; cases hb
  dsimp only
  rw [if_pos (show (Value.ref b != Value.ref a) = true from by simpa using hne)]
  refine wpAny_bind (wpAny_holding (runValue_entry entry_unchain ?_))
  unfold Builtin.«proto.unchain»
  dsimp only
  refine wpAny_bind (wpAny_field hb' hbd hb2 ?_)
  rw [if_pos (by rfl)]
  refine wpAny_pure ⟨_, rfl, ?_⟩
  have ha1 := Heap.get?_update_self (Obj.mapFields (·.setIfInBounds 2 (Value.ref b))) ha (Obj.isFreed_of_fields (Obj.data_mapFields hd _))
  have hd1 := Obj.data_mapFields hd (·.setIfInBounds 2 (Value.ref b))
  refine wpAny_bind (m := updateField a 2 (.ref b)) (show wpAny _ _ (setField (.ref a) 2 (.ref b)) _ _ _ from wpAny_setField ha hd (by simp) ?_)
  refine wpAny_throw ?_
  refine hE _ ⟨fun c o e => ?_, hx.new, _, _, tt, ha1, (Obj.cls_mapFields ..).trans hcls, hd1, rfl, rfl⟩
  have hca : a ≠ c := fun q => by rw [← q, hx.new] at e; cases e
  rw [Heap.get?_update_other _ _ hca]
  exact hx.keeps c o e
end
end Mine
end
section
open PySem PySem.W PySem.Calls PyProof.Rows PyProof.V PySem.Spec
namespace Mine
/-- an exception with its traceback's head, and no context -/
def TrA (h base : Heap) (e : Addr) (cls fl : Value) : Prop :=
  ∃ oe vs T oT ts, h.get? e = some oe ∧ oe.cls = cls ∧ oe.data = .fields vs ∧ vs[1]? = some (.ref T) ∧ vs[2]? = some .none ∧ base.get? T = none ∧ T ≠ e ∧ h.get? T = some oT ∧ oT.data = .fields ts ∧ ts[3]? = some fl
section
variable {M : Model} {A : Around} {E : Value → Shared → Prop} {s : Shared} {base : Heap} {env : Env} {outer l : List Env} {L e : Addr}
theorem note_first {oe : Obj} {vs : Array Value} {Q : Unit → Shared → Prop}
    (hfr : A.frames = some (env :: outer)) (hl : s.heap.FunFrames base (env :: outer)) (hf : env.frame = some L)
    (he : s.heap.get? e = some oe) (hkb : base.StaysIn s.heap) (hen : base.get? e = none) (hd : oe.data = .fields vs) (h1 : vs[1]? = some .none) (h2 : vs[2]? = some .none)
    (h : ∀ h', base.StaysIn h' → h'.FunFrames base (env :: outer) → TrA h' base e oe.cls (rawInt L) → s.heap.UpToSlots h' → Q () { s with heap := h' }) :
    wpAny M A (noteFrame (.ref e) env) Q E s := by
  have isRec : ∀ b o, s.heap.get? b = some o → (∀ vs, o.data ≠ .fields vs) → b ≠ e := fun b o hb hnf q => by
    rw [q, he] at hb; injection hb with hb; subst hb; exact hnf vs hd
  have offF : e ∉ (env :: outer).filterMap (·.frame) := fun hm => by
    obtain ⟨_, o, ho, hnf⟩ := hl.mem hm
    exact isRec _ _ ho hnf rfl
  have hsz : 1 < vs.size := (Array.getElem?_eq_some_iff.mp h1).1
  unfold noteFrame
  simp only [hf]
  refine wpAny_bind (wpAny_field he hd h1 ?_)
  rw [if_neg (by decide)]
  refine wpAny_bind (wpAny_frameOf_fun hfr hl hf fun h₁ hs₁ => ?_)
  refine wpAny_bind (wpAny_entryPlaceOf fun pl hpl => ?_)
  unfold EntryCells.newEntry newFields
  refine wpAny_bind (wpAny_newObj_type ?_ (hpl.sizeOk5 _ _ _ _ _))
  have e1 : h₁.get? e = some oe := (hs₁.2.1 e offF).trans he
  have b1 : base.StaysIn h₁ := fun b o hbo => (hs₁.2.1 b fun hm => by rw [(hl.mem hm).1] at hbo; cases hbo).trans (hkb b o hbo)
  have e2 := Heap.get?_push_of_some (h := h₁) { cls := .type "traceback", dict := none, data := .fields ([Value.none, .ref L, .none, rawInt L, .none] ++ (if pl.isEmpty then List.replicate 6 Value.none else pl)).toArray } e1
  refine wpAny_setField e2 hd hsz (h _ ?_ ?_ ?_ ?_)
  all_goals have hTe : h₁.objs.size ≠ e := Nat.ne_of_gt (Heap.lt_size e1)
  all_goals have oth : ∀ b o, b ≠ e → h₁.get? b = some o → ((h₁.push { cls := .type "traceback", dict := none, data := .fields ([Value.none, .ref L, .none, rawInt L, .none] ++ (if pl.isEmpty then List.replicate 6 Value.none else pl)).toArray }).update e (Obj.mapFields (·.setIfInBounds 1 (Value.ref h₁.objs.size)))).get? b = some o := fun b o hbe hb => (Heap.get?_update_other _ _ (Ne.symm hbe)).trans (Heap.get?_push_of_some _ hb)
  · exact fun b o hbo => oth b o (fun q => by rw [q, hen] at hbo; cases hbo) (b1 b o hbo)
  · refine hl.of_keeps fun b o hb hnf => ?_
    obtain ⟨sl, hs⟩ := hs₁.2.2 b o hb
    exact ⟨_, oth b _ (isRec b o hb hnf) hs, rfl⟩
  · have hd3 := Obj.data_mapFields hd (·.setIfInBounds 1 (Value.ref h₁.objs.size))
    refine ⟨_, _, h₁.objs.size, _, _, Heap.get?_update_self _ e2 (Obj.isFreed_of_fields hd3), Obj.cls_mapFields _ _, hd3, by simp [hsz], by rw [Array.getElem?_setIfInBounds_ne (by decide)]; exact h2, b1.fresh, hTe, (Heap.get?_update_other _ _ (Ne.symm hTe)).trans (Heap.get?_push_size h₁ rfl), rfl, ?_⟩
    · rcases hpl with rfl | ⟨_, _, _, _, _, _, _, rfl⟩ <;> simp
  · intro b o hb hnf
    obtain ⟨sl, hs⟩ := hs₁.2.2 b o hb
    exact ⟨sl, oth b _ (isRec b o hb hnf) hs⟩
theorem flight_none {cls fl : Value} {Q : Unit → Shared → Prop} (hkb : base.StaysIn s.heap) (hl : s.heap.FunFrames base l) (ht : TrA s.heap base e cls fl)
    (h : ∀ h', base.StaysIn h' → h'.FunFrames base l → TrA h' base e cls .none → s.heap.UpToSlots h' → Q () { s with heap := h' }) : wpAny M A (setFlight (.ref e) none) Q E s := by
  obtain ⟨oe, vs, T, oT, ts, he, hcls, hd, h1, h2, hnT, hTe, hT, hdT, h3⟩ := ht
  have sz : 3 < ts.size := (Array.getElem?_eq_some_iff.mp h3).1
  have oth : ∀ b, b ≠ T → (s.heap.update T (Obj.mapFields (·.setIfInBounds 3 ((none : Option Addr).elim Value.none fun f => rawInt f)))).get? b = s.heap.get? b := fun b hb => Heap.get?_update_other _ _ (Ne.symm hb)
  have isRec : ∀ b o, s.heap.get? b = some o → (∀ vs, o.data ≠ .fields vs) → b ≠ T := fun b o hb hnf q => by
    rw [q, hT] at hb; injection hb with hb; subst hb; exact hnf ts hdT
  unfold setFlight
  refine wpAny_bind (wpAny_field he hd h1 ?_)
  rw [if_pos (show (Value.ref T != Value.none) = true from by simp)]
  refine wpAny_setField hT hdT sz (h _ (fun b o hbo => (oth b fun q => by rw [q, hnT] at hbo; cases hbo).trans (hkb b o hbo)) (hl.of_keeps fun b o hb hnf => ⟨o, (oth b (isRec b o hb hnf)).trans hb, rfl⟩) ?_ fun b o hb hnf => ⟨o.slots, (oth b (isRec b o hb hnf)).trans hb⟩)
  exact ⟨oe, vs, T, _, _, (oth e (Ne.symm hTe)).trans he, hcls, hd, h1, h2, hnT, hTe, Heap.get?_update_self _ hT (Obj.isFreed_of_fields (Obj.data_mapFields hdT _)), Obj.data_mapFields hdT _, by simp [sz]⟩
end
end Mine
end
section
open PySem PySem.W PySem.Calls PyProof.Rows PyProof.V PySem.Spec
namespace Mine
section
variable {prog : Program} {w : World} {A₀ : Around} {E : Value → Shared → Prop} {s' : Shared} {base g h : Heap} {outer : List Env} {L a e : Addr} {m : Str → Option Value} {name : Str} {scope : Scope} {cd : Value}
  {b₀ : Stmt} {suite : List Stmt} {pos np : Pos} {rest : List ExceptHandler} {Q : Flow → Shared → Prop} {news : List (Addr × Obj)} {KF : Frag}
  {p : Program} {loose : List Str} {mean : ExcName → Option Value} {mg mb : Str → Option Value} {x : Str} {X T' : String}
/-- an exception raised in this frame and caught in it -/
theorem catch_here (K : Below A₀ base outer g) (F : Fr g L h m) (N : News g L h news) (hx : Heap.NewExc h s'.heap e X) (XB : KF.In base) (TB : Top p loose mean mg mb base) (D : KtsDicts (outer.filterMap (·.frame)) g)
    (ex : nsIn KF mainGlobals x = some none) (hv : bootBuiltins x = some (.type T')) (hn' : x ≠ "__name__")
    (hexc : isSubtype (.type T') (.type "BaseException") = pure true) (hnt : isSubtype (.type ((Manifest.find? T').elim "type" fun y => y.metatype)) (.type "tuple") = pure false) (hsub : isSubtype (.type X) (.type T') = pure true)
    (k : ∀ h' g' oe vs, KtsTurn (outer.filterMap (·.frame)) g g' → Fr g' L h' m → News g' L h' ((e, oe) :: news) → oe.data = .fields vs → vs[2]? = some .none → Below A₀ base outer g' → KF.In g' → Top p loose mean mg mb g' → KtsDicts (outer.filterMap (·.frame)) g' →
      wpAny (model prog w) ((A₀.deeper (envOf name scope L a cd)).mark (some (.ref e))) (execs (b₀ :: suite) (envOf name scope L a cd)) Q E { s' with heap := h' })
    (hk : scope.kind = .function) (hxk : (envOf name scope L a cd).kindOf x = some .globalImplicit) (hd : (x == ("__debug__" : Str)) = false)
    (hE : PassesOwnAt (model prog w) ((A₀.deeper (envOf name scope L a cd)).mark (some (.ref e))) (A₀.deeper (envOf name scope L a cd)) (envOf name scope L a cd) E) :
    wpAny (model prog w) (A₀.deeper (envOf name scope L a cd)) (noteFrame (.ref e) (envOf name scope L a cd))
      (fun _ s₂ => wpAny (model prog w) (A₀.deeper (envOf name scope L a cd)) (setFlight (.ref e) none) (fun _ s₃ =>
        wpAny (model prog w) (A₀.deeper (envOf name scope L a cd)) (handleBy (.ref e) (envOf name scope L a cd) (.ExceptHandler (some (.Name x np)) none (b₀ :: suite) pos :: rest)) Q E s₃) E s₂) E s' := by
  have K' := K.push (name := name) (a := a) (cd := cd) F hk
  have inF : ∀ b, b ∈ (envOf name scope L a cd :: outer).filterMap (·.frame) → b = L ∨ b ∈ outer.filterMap (·.frame) := fun b hb => kts_mem hb
  have hBG : ∀ b o, h.get? b = some o → b ∉ (envOf name scope L a cd :: outer).filterMap (·.frame) → (hideAll h ((envOf name scope L a cd :: outer).filterMap (·.frame))).get? b = some o := fun b o q nm => hideAll_get _ q nm
  have inB : ∀ q ∈ news, (hideAll h ((envOf name scope L a cd :: outer).filterMap (·.frame))).get? q.1 = some q.2 := fun q hq => hBG _ _ (N q hq).1 fun hm => by
    rcases inF _ hm with z | z
    · exact (N q hq).2.1 z
    · obtain ⟨o, ho, _⟩ := (K.frames.mem z).2
      rw [(N q hq).2.2] at ho; cases ho
  obtain ⟨ob, tp, he, hcls, hdt⟩ := hx.there
  have hen : (hideAll h ((envOf name scope L a cd :: outer).filterMap (·.frame))).get? e = none := kts_none (fun b o q => of_hideAll _ q) hx.new
  have hfr := funFrames_hide K'.frames (as := (envOf name scope L a cd :: outer).filterMap (·.frame)) fun env he b hb => List.mem_filterMap.mpr ⟨env, he, hb⟩
  have hst : Heap.StaysIn (hideAll h ((envOf name scope L a cd :: outer).filterMap (·.frame))) s'.heap := fun b o q => hx.keeps b o (of_hideAll _ q)
  have hsm0 : h.UpToSlots s'.heap := Heap.UpToSlots.of_keeps hx.keeps
  refine note_first (Around.frames_deeper K.stack) (hfr.of_keeps fun b o hb _ => ⟨o, hx.keeps b o hb, rfl⟩) rfl he hst hen hdt rfl rfl fun h₄ s4 f4 t4 u4 => ?_
  rw [hcls] at t4
  refine flight_none (s := { s' with heap := h₄ }) s4 f4 t4 fun h₅ s5 f5 t5 u5 => ?_
  obtain ⟨g₅, T₅, F₅, K₅⟩ := kts_ground K F hBG s5 (hsm0.trans (u4.trans u5))
  have X₅ : KF.In g₅ := XB.keeps K₅.stays
  have P₅ : TopRead p loose mg mb g₅ := topRead_of (TB.keeps K₅.stays)
  obtain ⟨oe5, _, _, _, _, ho5, hc5, _⟩ := id t5
  refine wpAny_handleBy_builtin (X := X) (T := T') (b := true) hexc hnt hsub (name_B F₅ X₅ P₅ ex hv hn' ⟨rfl, ⟨oe5, ho5, hc5⟩, ?_⟩ hk hxk hd)
  refine flight_none (s := { s' with heap := h₅ }) s5 f5 t5 fun h₆ s6 f6 t6 u6 => ?_
  obtain ⟨g₆, T₆, F₆, K₆⟩ := kts_ground K F hBG s6 ((hsm0.trans (u4.trans u5)).trans u6)
  obtain ⟨oe, vs, _, _, _, ho, _, hdv, _, hv2, _⟩ := t6
  have Ne : News g₆ L h₆ ((e, oe) :: news) := fun q hq => by
    rcases List.mem_cons.mp hq with rfl | hq
    · refine ⟨ho, fun z => ?_, T₆.none_ _ (kts_none F.keep hx.new)⟩
      obtain ⟨oL, _, _, hLo, _⟩ := F.ns
      have q := hx.new
      rw [show e = L from z, hLo] at q; cases q
    · exact ⟨s6 _ _ (inB q hq), (N q hq).2.1, T₆.none_ _ (N q hq).2.2⟩
  exact wpAny_passesOwnAt hE (k h₆ g₆ oe vs T₆ F₆ Ne hdv hv2 K₆ (XB.keeps K₆.stays) (TB.keeps K₆.stays) (D.turn T₆))
theorem raised_turn {G' : Heap} {cls : Value} {h' : Heap} (T : KtsTurn (outer.filterMap (·.frame)) g G') (R : RaisedSN base G' outer e cls news h') : RaisedSN base g outer e cls news h' := by
  obtain ⟨B, a0, hB, hBG, hl, hfl⟩ := R
  have nn : ∀ b, G'.get? b = none → g.get? b = none := fun b hb => by
    cases z : g.get? b with
    | none => rfl
    | some o => obtain ⟨sl, hs⟩ := T.up z; rw [hb] at hs; cases hs
  exact ⟨B, a0, hB, fun b o q nm => hBG b o (T.other b o q nm) nm, fun q hq => ⟨(hl q hq).1, nn _ (hl q hq).2.1, (hl q hq).2.2⟩, hfl⟩
theorem raised_sub {G' : Heap} {cls : Value} {h' : Heap} {news' : List (Addr × Obj)} (R : RaisedSN base G' outer e cls news h') (hs : ∀ q ∈ news', q ∈ news) : RaisedSN base G' outer e cls news' h' := by
  obtain ⟨B, a0, hB, hBG, hl, hfl⟩ := R
  exact ⟨B, a0, hB, hBG, fun q hq => hl q (hs q hq), hfl⟩
theorem turn_slots {fs : List Addr} {g' : Heap} (T : KtsTurn fs g g') : g.UpToSlots g' := fun _ _ e _ => T.up e
end
end Mine
end
section
open PySem PySem.W PySem.Calls PyProof.Rows PyProof.V PySem.Spec
namespace Mine
section
variable {prog : Program} {w : World} {A₀ : Around} {s : Shared} {K : Frag} {p : Program} {loose : List Str} {mean : ExcName → Option Value} {mg mb : Str → Option Value}
  {base : Heap} {L a f : Addr} {m : Str → Option Value} {cn : Str} {cs : Scope} {ccd : Value} {R : Result → Shared → Prop} {name qual : Str} {params : Arguments} {body : List Stmt} {scope : Scope} {dV kV doc pm cdv ct oc : Value} {an od : Option Addr} {osl : Array (Option Value)}
  {args : Args} {binds : List (Str × Value)} {led led' : List (Addr × Obj)}
theorem pushC {A : Around} {base h₀ h : Heap} {outer : List Env} {L a : Addr} {m : Str → Option Value} {cn : Str} {cs : Scope} {ccd : Value} (K : Below A base outer h₀) (F : Fr h₀ L h m) (hk : cs.kind = .function) : Below (A.deeper (envOfC cn cs L a ccd)) base (envOfC cn cs L a ccd :: outer) h := by
  have hnew : base.get? L = none := by
    cases hq : base.get? L with
    | none => rfl
    | some o => exact absurd (Nat.lt_of_lt_of_le (Heap.lt_size (K.stays L o hq)) F.above) (Nat.lt_irrefl _)
  refine ⟨Around.frames_deeper K.stack, fun b o e => F.keep b o (K.stays b o e), ?_⟩
  exact .cons (by show cs.kind ≠ .module; rw [hk]; decide) rfl F.ns hnew (K.frames.of_keeps fun b o e _ => ⟨o, F.keep b o e, rfl⟩)
theorem kts_enterC {A A₁ : Around} {s : Shared} {base h₀ : Heap} {outer : List Env} {L a : Addr} {m : Str → Option Value} {cn : Str} {cs : Scope} {ccd : Value} {news : List (Addr × Obj)} (B : Below A₁ base outer h₀) (F : Fr h₀ L s.heap m) (N : News h₀ L s.heap news) (hA : A.frames = some (envOfC cn cs L a ccd :: outer)) (hck : cs.kind = .function) :
    ∃ oL es ep, (hideAll s.heap (news.map (·.1))).get? L = some oL ∧ oL.data = .dict es ep ∧ (∀ h', h'.get? L = some oL → Heap.Ns h' L m) ∧ (∀ (sl : Array (Option Value)) h', h'.get? L = some { oL with slots := sl } → Heap.Ns h' L m) ∧
      h₀.StaysIn (hideAll s.heap (news.map (·.1))) ∧ Below A base (envOfC cn cs L a ccd :: outer) (hideAll s.heap (news.map (·.1))) := by
  have nm : ∀ b o, h₀.get? b = some o → b ∉ news.map (·.1) := fun b o e q => by
    obtain ⟨p, hp, rfl⟩ := List.mem_map.mp q
    rw [(N p hp).2.2] at e; cases e
  have st : h₀.StaysIn (hideAll s.heap (news.map (·.1))) := fun b o e => hideAll_get _ (F.keep b o e) (nm b o e)
  obtain ⟨oL, es, ep, hL, hLd, hLk, hLf⟩ := F.ns
  have nL : L ∉ news.map (·.1) := fun q => by
    obtain ⟨p, hp, e⟩ := List.mem_map.mp q
    exact (N p hp).2.1 e
  have hLg := hideAll_get (news.map (·.1)) hL nL
  have B₁ := pushC (cn := cn) (cs := cs) (a := a) (ccd := ccd) B F hck
  exact ⟨oL, es, ep, hLg, hLd, fun h' e => ⟨oL, es, ep, e, hLd, hLk, hLf⟩, fun sl h' e => ⟨_, es, ep, e, hLd, hLk, hLf⟩, st, ⟨hA, fun b o e => st b o (B.stays b o e), funFrames_hideAll B₁.frames fun env he b hb hf => by
    cases he with
    | head => exact nL ((Option.some.inj hf : L = b) ▸ hb)
    | tail _ he =>
      obtain ⟨L₁, o₁, hf₁, ho₁⟩ := funFrames_in B.frames env he
      rw [hf₁] at hf
      exact nm L₁ o₁ ho₁ ((Option.some.inj hf : L₁ = b) ▸ hb)⟩⟩
/-- out of the law's frame into a def that catches -/
theorem enterD (B : Below A₀ base [] base) (F : Fr base L s.heap m) (N : News base L s.heap led) (hck : cs.kind = .function) (X : K.In base) (T : Top p loose mean mg mb base)
    (ho : K.lookup f = some ⟨oc, od, .func (fnOf name qual params body scope dV kV doc pm an cdv ct), osl⟩) (hcd : codeIn K cdv qual = true) (hroom : (A₀.deeper (envOfC cn cs L a ccd)).depth < recursionLimit)
    (hbind : BindsTo s (fnOf name qual params body scope dV kV doc pm an cdv ct) args binds) (hloc : ∀ y ∈ binds, scope.names.lookup y.1 = some .local)
    (h : ∀ g' L' h₁, Fr base L g' m → Fr g' L' h₁ (fun y => binds.reverse.lookup y) → News g' L' h₁ led → Below (A₀.deeper (envOfC cn cs L a ccd)) base [envOfC cn cs L a ccd] g' → K.In g' → Top p loose mean mg mb g' → KtsDicts ([envOfC cn cs L a ccd].filterMap (·.frame)) g' →
      (∀ b o, s.heap.get? b = some o → b ∉ led.map (·.1) → g'.get? b = some o) →
      wpAny (model prog w) ((A₀.deeper (envOfC cn cs L a ccd)).deeper (envOf qual scope L' f cdv)) (execs body (envOf qual scope L' f cdv)) (Fin R) (fun _ _ => False) { s with heap := h₁, toks := s.toks + binds.length })
    (hco : scope.isCoroutine = false := by exact rfl) (hgen : scope.isGenerator = false := by exact rfl) (hk : scope.kind = .function := by exact rfl)
    (hcell : ∀ x ∈ scope.names, x.2 ≠ .cell := by decide) : codeAny (model prog w) (A₀.deeper (envOfC cn cs L a ccd)) (.call (.ref f) args) R s := by
  obtain ⟨oL, es, ep, hLg, hLd, hN, hNs, st, B₂⟩ := kts_enterC (A := A₀.deeper (envOfC cn cs L a ccd)) B F N (Around.frames_deeper B.stack) hck
  refine codeAny_call_def (fd := fnOf name qual params body scope dV kV doc pm an cdv ct) (body := body) (binds := binds) hroom ((X.keeps F.keep) _ _ ho) rfl (T.nolimit.keeps F.keep) (codeRec_of (X.keeps F.keep) hcd) rfl hbind hcell hloc (fun h₁ hns hk₁ => ?_) hco hgen hk
  refine wpAny_mono (h _ s.heap.objs.size h₁ ⟨hN _ hLg, st, F.above⟩ ⟨hns, fun b o e => hk₁ b o (of_hideAll _ e), Nat.le_of_eq (hideAll_size _ _)⟩
    (fun p hp => ⟨hk₁ _ _ (N p hp).1, Nat.ne_of_lt (Heap.lt_size (N p hp).1), hideAll_none _ (List.mem_map_of_mem hp)⟩) B₂ (X.keeps st) (T.keeps st) (fun b hb => ?_) (fun b o e n => hideAll_get _ e n)) (fun _ _ y => y) fun _ _ y => y.elim
  rw [List.mem_singleton.mp (show b ∈ [L] from hb)]
  exact ⟨oL, es, ep, hLg, hLd⟩
/-- back out of it -/
theorem backD {h : Heap} {g' g2 : Heap} {L' : Addr} {h' : Heap} {m' : Str → Option Value} (FG : Fr base L g' m) (T : KtsTurn ([envOfC cn cs L a ccd].filterMap (·.frame)) g' g2) (F2 : Fr g2 L' h' m') (N2 : News g2 L' h' led')
    (hg : ∀ b o, h.get? b = some o → b ∉ led.map (·.1) → g'.get? b = some o) :
    Fr base L h' m ∧ News base L h' led' ∧ ∀ b o, b ≠ L → b ∉ led.map (·.1) → h.get? b = some o → h'.get? b = some o := by
  have hn : ∀ b, b ≠ L → b ∉ [envOfC cn cs L a ccd].filterMap (·.frame) := fun b hb hm => by
    exact hb (List.mem_singleton.mp (show b ∈ [L] from hm))
  obtain ⟨oL, es, ep, hLo, hLd, r⟩ := FG.ns
  obtain ⟨sl, hs⟩ := T.up hLo
  have nL := kts_self FG
  refine ⟨⟨⟨_, es, ep, F2.keep _ _ hs, hLd, r⟩, fun b o e => F2.keep b o (T.other b o (FG.keep b o e) (hn b fun q => by rw [q, nL] at e; cases e)), FG.above⟩, fun q hq => ⟨(N2 q hq).1, fun z => ?_, ?_⟩, fun b o hb hm e => F2.keep b o (T.other b o (hg b o e hm) (hn b hb))⟩
  · have := (N2 q hq).2.2; rw [z, hs] at this; cases this
  · cases z : base.get? q.1 with
    | none => rfl
    | some o =>
      obtain ⟨sl', hs'⟩ := T.up (FG.keep _ _ z)
      have := (N2 q hq).2.2
      rw [hs'] at this; cases this
end
end Mine
end
section
open PySem PySem.W PySem.Calls PyProof.Rows PyProof.V PySem.Spec
namespace Mine
def dMiss : Dat := .list [.str (Str.ofString "missing")]
def dRef : Dat := .list [.str (Str.ofString "refused")]
/-- the plain list's answer -/
def dueL (sz : Bool) (room : Int) (nums : List Int) (pairs : List (Int × Int)) (shown : List (List Int)) (deed key value : Int) : Dat × List (Int × Int) × List (List Int) :=
  if deed < 2 ∨ (deed = 6 ∧ kdfHas pairs key = false) then
    if ¬ (0 ≤ (if sz then sizeOf value else 1) ∧ (if sz then sizeOf value else 1) ≤ room) then (dRef, pairs, shown)
    else (.list (if deed = 6 then [.int value] else []), kdfPut (evict sz room nums key (if sz then sizeOf value else 1) pairs.length pairs shown).1 key value, (evict sz room nums key (if sz then sizeOf value else 1) pairs.length pairs shown).2)
  else if deed = 3 then (.list [.bool (kdfHas pairs key)], pairs, shown)
  else if deed = 8 then
    if pairs = [] then (dMiss, pairs, shown)
    else (.list [.tuple [.int (picked (pairs.map (·.1)) nums shown.length), .int (kdfLook pairs (picked (pairs.map (·.1)) nums shown.length) 0)]], delI pairs (picked (pairs.map (·.1)) nums shown.length), shown ++ [sortI (pairs.map (·.1))])
  else if deed = 9 ∧ value % 4 = 0 then (.list [], [], shown)
  else if kdfHas pairs key = false then ((if deed = 4 then .list [.int (-7)] else if deed = 5 then .list [.int (-8)] else dMiss), pairs, shown)
  else if deed = 5 ∨ deed = 7 ∨ deed = 9 then (.list (if deed = 7 then [] else [.int (kdfLook pairs key 0)]), delI pairs key, shown)
  else (.list [.int (kdfLook pairs key 0)], pairs, shown)

inductive DPost (w : World) (c : CL) (nums : List Int) (st : CS) (sh₀ : List (List Int)) (us₀ : List Value) (deed key value : Int) (h h' : Heap) (v : Value) (o' : CO) : Prop
  | mk (ans : Dat) (st' : CS) (r : List (Addr × Obj)) (sh : List (List Int)) (extra : List (Addr × Obj)) (e : dueL st.sz st.room nums st.pairs sh₀ deed key value = (ans, st'.pairs, sh₀ ++ sh)) (hD : DatIn extra v ans) (he : ∀ q ∈ extra, h.get? q.1 = none ∧ h'.get? q.1 = some q.2) (W : WfK (st'.pairs.map (·.1)) st'.ks st'.ix)
    (e1 : st'.sz = st.sz) (e2 : st'.room = st.room) (e3 : st'.fch = st.fch) (I : CI w c o' st') (hu : o'.us = us₀ ++ refsOf r) (S : SeenR r sh) (hr : ∀ p ∈ r, h.get? p.1 = none ∧ h'.get? p.1 = some p.2)
theorem off7 {x dx ad az ai ak al l : Addr} (h : x < l ∧ dx < l ∧ ad < l ∧ az < l ∧ ai < l ∧ ak < l ∧ al < l) : l ∉ [x, dx, ad, az, ai, ak, al] := fun q => by
  simp only [List.mem_cons, List.not_mem_nil, or_false] at q
  obtain ⟨h1, h2, h3, h4, h5, h6, h7⟩ := h
  rcases q with q | q | q | q | q | q | q <;> subst q <;> exact absurd (by assumption) (Nat.lt_irrefl _)
theorem DPost.same {w : World} {c : CL} {nums : List Int} {st : CS} {sh₀ : List (List Int)} {o : CO} {deed key value : Int} {h h' : Heap} {v : Value} {ans : Dat} {extra : List (Addr × Obj)} (I : CI w c o st) (W : WfK (st.pairs.map (·.1)) st.ks st.ix)
    (hd : dueL st.sz st.room nums st.pairs sh₀ deed key value = (ans, st.pairs, sh₀)) (hD : DatIn extra v ans) (he : ∀ q ∈ extra, h.get? q.1 = none ∧ h'.get? q.1 = some q.2) : DPost w c nums st sh₀ o.us deed key value h h' v o :=
  ⟨ans, st, [], [], extra, by rw [List.append_nil]; exact hd, hD, he, W, rfl, rfl, rfl, I, by simp [refsOf], .nil, fun _ hp => nomatch hp⟩
theorem fresh_t {fs : List Addr} {g' g2 : Heap} {b : Addr} (T : KtsTurn fs g' g2) (e : g2.get? b = none) : g'.get? b = none := by
  cases z : g'.get? b with
  | none => rfl
  | some o => obtain ⟨sl, hs⟩ := T.up z; rw [e] at hs; cases hs
theorem due_refused {sz : Bool} {room : Int} {nums : List Int} {pairs : List (Int × Int)} {shown : List (List Int)} {key value : Int} {d : Int} (hd : d < 2 ∨ (d = 6 ∧ kdfHas pairs key = false))
    (h : ¬ (0 ≤ (if sz then sizeOf value else 1) ∧ (if sz then sizeOf value else 1) ≤ room)) : dueL sz room nums pairs shown d key value = (dRef, pairs, shown) := by
  unfold dueL; rw [if_pos hd, if_pos h]
theorem due_stored {sz : Bool} {room : Int} {nums : List Int} {pairs : List (Int × Int)} {shown : List (List Int)} {key value : Int} {d : Int} (hd : d < 2 ∨ (d = 6 ∧ kdfHas pairs key = false))
    (h : 0 ≤ (if sz then sizeOf value else 1) ∧ (if sz then sizeOf value else 1) ≤ room) : dueL sz room nums pairs shown d key value =
      (.list (if d = 6 then [.int value] else []), kdfPut (evict sz room nums key (if sz then sizeOf value else 1) pairs.length pairs shown).1 key value, (evict sz room nums key (if sz then sizeOf value else 1) pairs.length pairs shown).2) := by
  unfold dueL; rw [if_pos hd, if_neg (not_not_intro h)]
theorem due_ask {sz : Bool} {room : Int} {nums : List Int} {pairs : List (Int × Int)} {shown : List (List Int)} {key value : Int} : dueL sz room nums pairs shown 3 key value = (.list [.bool (kdfHas pairs key)], pairs, shown) := by
  unfold dueL; rw [if_neg (by omega), if_pos rfl]
theorem due_pop0 {sz : Bool} {room : Int} {nums : List Int} {pairs : List (Int × Int)} {shown : List (List Int)} {key value : Int} (h : pairs = []) : dueL sz room nums pairs shown 8 key value = (dMiss, pairs, shown) := by
  unfold dueL; rw [if_neg (by omega), if_neg (by omega), if_pos rfl, if_pos h]
theorem due_pop1 {sz : Bool} {room : Int} {nums : List Int} {pairs : List (Int × Int)} {shown : List (List Int)} {key value : Int} (h : pairs ≠ []) : dueL sz room nums pairs shown 8 key value =
    (.list [.tuple [.int (picked (pairs.map (·.1)) nums shown.length), .int (kdfLook pairs (picked (pairs.map (·.1)) nums shown.length) 0)]], delI pairs (picked (pairs.map (·.1)) nums shown.length), shown ++ [sortI (pairs.map (·.1))]) := by
  unfold dueL; rw [if_neg (by omega), if_neg (by omega), if_pos rfl, if_neg h]
theorem due_clear {sz : Bool} {room : Int} {nums : List Int} {pairs : List (Int × Int)} {shown : List (List Int)} {key value : Int} (h : value % 4 = 0) : dueL sz room nums pairs shown 9 key value = (.list [], [], shown) := by
  unfold dueL; rw [if_neg (by omega), if_neg (by omega), if_neg (by omega), if_pos ⟨rfl, h⟩]
theorem due_off {sz : Bool} {room : Int} {nums : List Int} {pairs : List (Int × Int)} {shown : List (List Int)} {key value : Int} {d : Int} (hk : kdfHas pairs key = false) (hd : d = 2 ∨ d = 4 ∨ d = 5 ∨ d = 7 ∨ (d = 9 ∧ ¬ value % 4 = 0)) :
    dueL sz room nums pairs shown d key value = ((if d = 4 then .list [.int (-7)] else if d = 5 then .list [.int (-8)] else dMiss), pairs, shown) := by
  unfold dueL; rw [if_neg (by omega), if_neg (by omega), if_neg (by omega), if_neg (by omega), if_pos hk]
theorem due_gone {sz : Bool} {room : Int} {nums : List Int} {pairs : List (Int × Int)} {shown : List (List Int)} {key value : Int} {d : Int} (hk : kdfHas pairs key = true) (hd : d = 5 ∨ d = 7 ∨ (d = 9 ∧ ¬ value % 4 = 0)) :
    dueL sz room nums pairs shown d key value = (.list (if d = 7 then [] else [.int (kdfLook pairs key 0)]), delI pairs key, shown) := by
  unfold dueL; rw [if_neg (by rw [hk]; intro h; rcases h with h | ⟨_, h⟩ <;> first | omega | cases h), if_neg (by omega), if_neg (by omega), if_neg (by omega), if_neg (by rw [hk]; decide), if_pos (by omega)]
/-- the law's deed, asked from the law's own frame -/
def DSpec (w : World) (args : List Value) (c : CL) (o : CO) (Pre : Heap → Prop) (P : Heap → Heap → Value → CO → Prop) : Prop :=
  ∀ (A₀ : Around) (s : Shared) (base : Heap) (L a : Addr) (m : Str → Option Value) (cn : Str) (cs : Scope) (ccd : Value) (R : Result → Shared → Prop) (p : Program) (loose : List Str) (mean : ExcName → Option Value) (mg mb : Str → Option Value),
    Below A₀ base [] base → Fr base L s.heap m → News base L s.heap (c.led o) → (KK w.params).In base → Top p loose mean mg mb base → cs.kind = .function → A₀.depth + 80 < recursionLimit → A₀.units + 1600 < cLine → A₀.handled = none → Pre s.heap →
    (∀ h' tk v o', P s.heap h' v o' → Fr base L h' m → News base L h' (c.led o') → (∀ b o₁, b ≠ L → b ∉ c.adr → s.heap.get? b = some o₁ → h'.get? b = some o₁) → R (.ok (.ret v)) { s with heap := h', toks := tk }) →
    codeAny (model PG w) (A₀.deeper (envOfC cn cs L a ccd)) (.call (.ref 270) ⟨args, []⟩) R s
end Mine
end
section
open PySem PySem.W PySem.Calls PyProof.Rows PyProof.V PySem.Spec
namespace Mine
section
variable {prog : Program} {w : World} {A : Around} {s : Shared} {K : Frag} {p : Program} {loose : List Str} {mean : ExcName → Option Value} {mg mb : Str → Option Value}
  {g : Heap} {L f : Addr} {m : Str → Option Value} {R : Result → Shared → Prop} {name qual : Str} {params : Arguments} {body : List Stmt} {scope : Scope} {dV kV doc pm cdv ct oc : Value} {an od : Option Addr} {osl : Array (Option Value)}
  {args : Args} {binds : List (Str × Value)} {led l : List (Addr × Obj)}
/-- into a def with cells: what the ledger bears is hidden from the ground -/
theorem enterMC (F : Fr g L s.heap m) (N : News g L s.heap led) (X : K.In g) (T : Top p loose mean mg mb g)
    (ho : K.lookup f = some ⟨oc, od, .func (fnOf name qual params body scope dV kV doc pm an cdv ct), osl⟩) (hcd : codeIn K cdv qual = true) (hroom : A.depth < recursionLimit)
    (hbind : BindsTo s (fnOf name qual params body scope dV kV doc pm an cdv ct) args binds) (hkind : (binds.all fun y => scope.names.lookup y.1 == some .local || scope.names.lookup y.1 == some .cell) = true)
    (hnd : ((cellsFrom 0 scope.names []).map (·.1)).Nodup)
    (h : ∀ g' L' h₁ tk cells, Fr g' L' h₁ (bindL (envOfC qual scope L' f cdv).kindOf binds fun _ => none) → News g' L' h₁ (cells ++ led) → CellsAre (bindC (envOfC qual scope L' f cdv).kindOf binds fun _ => none) (cellsFrom (L' + 1) scope.names []) cells →
      K.In g' → Top p loose mean mg mb g' → (∀ b o, s.heap.get? b = some o → b ∉ led.map (·.1) → g'.get? b = some o) → (∀ p ∈ led, p.1 < L') →
      ∀ E' : Value → Shared → Prop, wpAny (model prog w) (A.deeper (envOfC qual scope L' f cdv)) (execs body (envOfC qual scope L' f cdv)) (Fin R) E' { s with heap := h₁, toks := tk })
    (hco : scope.isCoroutine = false := by exact rfl) (hgen : scope.isGenerator = false := by exact rfl) (hk : scope.kind = .function := by exact rfl) : codeAny (model prog w) A (.call (.ref f) args) R s := by
  have nm : ∀ b o, g.get? b = some o → b ∉ led.map (·.1) := fun b o e q => by
    obtain ⟨p, hp, rfl⟩ := List.mem_map.mp q
    rw [(N p hp).2.2] at e; cases e
  have st : ∀ b o, g.get? b = some o → (hideAll s.heap (led.map (·.1))).get? b = some o := fun b o e => hideAll_get _ (F.keep b o e) (nm b o e)
  refine codeAny_call_function hroom ((X.keeps F.keep) _ _ ho) rfl hco hgen rfl (codeRec_of (X.keeps F.keep) hcd) (hbind _ _ _ _ ?_)
  refine wpAny_newFunctionEnv_cells hk (kindsX hkind _) fun env' he s' x => ?_
  subst he
  refine ⟨(T.nolimit.keeps F.keep).keeps x.toInCall.keep, codeAny_func ?_⟩
  obtain ⟨h₁, tk, rfl, _⟩ := x.done
  have hk₁ := x.toInCall.keep
  obtain ⟨cells, NC, Y⟩ := Cl.news (h₀ := s.heap) (Nat.le_refl _) fun n c hm => ⟨x.cell n c (lookup_of_mem_nodup (cellsFrom_names scope.names 0 (s.heap.objs.size + 1) [] [] rfl ▸ hnd) hm), x.above n c hm⟩
  refine h _ s.heap.objs.size h₁ tk cells ⟨x.toInCall.ns, fun b o e => hk₁ b o (of_hideAll _ e), Nat.le_of_eq (hideAll_size _ _)⟩ (fun p hp => ?_) Y (X.keeps st) (T.keeps st) (fun b o e n => hideAll_get _ e n) (fun p hp => Heap.lt_size (N p hp).1) _
  rcases List.mem_append.mp hp with hp | hp
  · exact ⟨(NC p hp).1, (NC p hp).2.1, kts_none (fun b o q => of_hideAll _ q) (NC p hp).2.2⟩
  · exact ⟨hk₁ _ _ (N p hp).1, Nat.ne_of_lt (Heap.lt_size (N p hp).1), hideAll_none _ (List.mem_map_of_mem hp)⟩
/-- back, nothing old changed -/
theorem backN {g' : Heap} {L' : Addr} {h h' : Heap} {m' : Str → Option Value} (F : Fr g L h m) (N : News g L h led) (hg : ∀ b o, h.get? b = some o → b ∉ led.map (·.1) → g'.get? b = some o) (F' : Fr g' L' h' m') (N' : News g' L' h' l) (hl : ∀ q ∈ led, q ∈ l) :
    Fr g L h' m ∧ News g L h' l ∧ (∀ b o, h.get? b = some o → h'.get? b = some o) ∧ ∀ q ∈ l, q.1 ∈ led.map (·.1) ∨ h.get? q.1 = none := by
  have keep : ∀ b o, h.get? b = some o → h'.get? b = some o := fun b o e => by
    by_cases q : b ∈ led.map (·.1)
    · obtain ⟨p, hp, rfl⟩ := List.mem_map.mp q
      rw [(N p hp).1] at e; cases e
      exact (N' p (hl p hp)).1
    · exact F'.keep b o (hg b o e q)
  have nm : ∀ b, g'.get? b = none → b ∉ led.map (·.1) → h.get? b = none := fun b hb q => by
    cases z : h.get? b with
    | none => rfl
    | some o => rw [hg b o z q] at hb; cases hb
  refine ⟨F.keeps keep, fun p hp => ?_, keep, fun p hp => ?_⟩
  rotate_left
  · by_cases q : p.1 ∈ led.map (·.1)
    · exact .inl q
    · exact .inr (nm _ (N' p hp).2.2 q)
  obtain ⟨n1, n2, n3⟩ := N' p hp
  by_cases q : p.1 ∈ led.map (·.1)
  · obtain ⟨p', hp', e⟩ := List.mem_map.mp q
    have := N p' hp'
    rw [e] at this
    exact ⟨n1, this.2.1, this.2.2⟩
  · have hn := nm _ n3 q
    refine ⟨n1, fun z => ?_, kts_none F.keep hn⟩
    obtain ⟨oL, _, _, hLo, _⟩ := F.ns
    rw [z, hLo] at hn; cases hn
end
/-- what a def does that reads data and makes data, and changes nothing -/
def NSpec (w : World) (d : Nat) (f : Addr) (args : List Value) (r : List (Addr × Obj)) (P : Value → List (Addr × Obj) → Prop) : Prop :=
  ∀ (A : Around) (s : Shared) (g : Heap) (L : Addr) (m : Str → Option Value) (R : Result → Shared → Prop) (p : Program) (loose : List Str) (mean : ExcName → Option Value) (mg mb : Str → Option Value),
    Fr g L s.heap m → News g L s.heap r → (KK w.params).In g → Top p loose mean mg mb g → A.depth + d < recursionLimit → A.units + 20 * d < cLine → A.handled = none →
    (∀ h' tk v l, (∀ q ∈ r, q ∈ l) → P v l → Fr g L h' m → News g L h' l → ((∀ b o, s.heap.get? b = some o → h'.get? b = some o) ∧ ∀ q ∈ l, q.1 ∈ r.map (·.1) ∨ s.heap.get? q.1 = none) → R (.ok (.ret v)) { s with heap := h', toks := tk }) →
    codeAny (model PG w) A (.call (.ref f) ⟨args, []⟩) R s
def PD (pairs : List (Int × Int)) : Dat := .list (pairs.map fun p => .tuple [.int p.1, .int p.2])
def SD (shown : List (List Int)) : Dat := .list (shown.map fun l => .list (l.map .int))
def ID (l : List Int) : Dat := .list (l.map .int)
theorem dat_list {r : List (Addr × Obj)} {v : Value} {ds : List Dat} (h : DatIn r v (.list ds)) : ∃ a vs n, v = .ref a ∧ (a, listOf vs.toArray n) ∈ r ∧ DatAll r vs ds := by
  cases h with | list a b => exact ⟨_, _, _, rfl, a, b⟩
theorem dat_tup {r : List (Addr × Obj)} {v : Value} {ds : List Dat} (h : DatIn r v (.tuple ds)) : ∃ a vs n, v = .ref a ∧ (a, ({ cls := .type "tuple", data := .seq vs.toArray n } : Obj)) ∈ r ∧ DatAll r vs ds := by
  cases h with | tuple a b => exact ⟨_, _, _, rfl, a, b⟩
theorem dat_int {r : List (Addr × Obj)} {v : Value} {k : Int} (h : DatIn r v (.int k)) : ∃ t, v = .int k t := by
  cases h with | int i t => exact ⟨t, rfl⟩
theorem all_cons {r : List (Addr × Obj)} {vs : List Value} {d : Dat} {ds : List Dat} (h : DatAll r vs (d :: ds)) : ∃ v vs', vs = v :: vs' ∧ DatIn r v d ∧ DatAll r vs' ds := by
  cases h with | cons a b => exact ⟨_, _, rfl, a, b⟩
theorem all_nil {r : List (Addr × Obj)} {vs : List Value} (h : DatAll r vs []) : vs = [] := by
  cases h; rfl
end Mine
end
section
open PySem PySem.W PySem.Calls PyProof.Rows PyProof.V PySem.Spec
namespace Mine
open LCg LCt
section
variable {prog : Program} {w : World} {A : Around} {s : Shared} {h₀ : Heap} {L : Addr} {m : Str → Option Value} {env : Env} {ct elt : PySem.Expr} {x : Str} {scope : Scope} {cl : List (Str × Addr)} {S : List (Addr × Obj) → Prop} {P : Nat → Value → Prop} {Fin : List Value → List (Addr × Obj) → Prop} {n : Nat}
theorem compEnd_mono {s₁ s₂ : Shared} {I C D : Addr} {oI oC oD : Obj} {rest rest' : Value → List (Addr × Obj) → Prop} {y : Value} (h : ∀ y news, rest y news → rest' y news) (e : CompEnd h₀ L m s₁ I oI C oC D oD S rest y s₂) : CompEnd h₀ L m s₁ I oI C oC D oD S rest' y s₂ :=
  let ⟨h', tk, news', a, b, c, d, f, g⟩ := e; ⟨h', tk, news', a, b, c, d, f, h _ _ g⟩
theorem restU (J : Nat → List Value → List (Addr × Obj) → Prop) (fin : ∀ ys news, J n ys news → Fin ys news)
    (step : ∀ i ys news v I oI C oC D m₂ h tk (E' : Value → Shared → Prop), i < n → J i ys news → P i v → NsObj oC m₂ → m₂ x = some v → Fr h₀ L h m → News h₀ L h ((I, oI) :: (C, oC) :: (D, lst ys) :: news) → Off3 I C D news → (I ≠ C ∧ I ≠ D ∧ C ≠ D) →
      wpAny (model prog w) A (eval elt (compEnvC scope cl C env)) (CompEnd h₀ L m { s with heap := h, toks := tk } I oI C oC D (lst ys) S (fun y news' => J (i + 1) (ys ++ [y]) news')) E' { s with heap := h, toks := tk }) :
    ∀ k i ys news, i + k = n → J i ys news → CompRest prog w A h₀ L m env elt x scope cl s S P Fin k i ys news
  | 0, i, ys, news, e, j => CompRest.zero (fin _ _ ((show i = n by omega) ▸ j))
  | k + 1, i, ys, news, e, j => CompRest.succ fun v I oI C oC D m₂ h tk E' hP hC hx F N o3 ne =>
    wpAny_mono (step i ys news v I oI C oC D m₂ h tk E' (by omega) j hP hC hx F N o3 ne) (fun _ _ z => compEnd_mono (fun y news' j' => restU J fin step k (i + 1) (ys ++ [y]) news' (by omega) j') z) fun _ _ z => z
theorem restT (J : Nat → List Value → List (Addr × Obj) → Prop) (fin : ∀ ys news, J n ys news → Fin ys news)
    (step : ∀ i ys news v I oI C oC D m₂ h tk (E' : Value → Shared → Prop), i < n → J i ys news → P i v → NsObj oC m₂ → m₂ x = some v → Fr h₀ L h m → News h₀ L h ((I, oI) :: (C, oC) :: (D, lst ys) :: news) → Off3 I C D news → (I ≠ C ∧ I ≠ D ∧ C ≠ D) →
      wpAny (model prog w) A (isTrue ct (compEnvC scope cl C env) (eval ct (compEnvC scope cl C env))) (fun ok s' => if ok = true then
        wpAny (model prog w) A (eval elt (compEnvC scope cl C env)) (CompEnd h₀ L m { s with heap := h, toks := tk } I oI C oC D (lst ys) S (fun y news' => J (i + 1) (ys ++ [y]) news')) E' s'
        else CompEnd h₀ L m { s with heap := h, toks := tk } I oI C oC D (lst ys) S (fun _ news' => J (i + 1) ys news') Value.none s') E' { s with heap := h, toks := tk }) :
    ∀ k i ys news, i + k = n → J i ys news → CompRestT prog w A h₀ L m env ct elt x scope cl s S P Fin k i ys news
  | 0, i, ys, news, e, j => CompRestT.zero (fin _ _ ((show i = n by omega) ▸ j))
  | k + 1, i, ys, news, e, j => CompRestT.succ fun v I oI C oC D m₂ h tk E' hP hC hx F N o3 ne =>
    wpAny_mono (step i ys news v I oI C oC D m₂ h tk E' (by omega) j hP hC hx F N o3 ne) (fun ok s' z => by
      by_cases q : ok = true
      · rw [if_pos q] at z ⊢
        exact wpAny_mono z (fun _ _ z => compEnd_mono (fun y news' j' => restT J fin step k (i + 1) (ys ++ [y]) news' (by omega) j') z) fun _ _ z => z
      · rw [if_neg q] at z ⊢
        exact compEnd_mono (fun y news' j' => restT J fin step k (i + 1) ys news' (by omega) j') z) fun _ _ z => z
end
end Mine
end
section
open PySem PySem.W PySem.Calls PyProof.Rows PyProof.V PySem.Spec
namespace Mine
abbrev tupOf (vs : List Value) (n : Nat) : Obj := { cls := .type "tuple", data := .seq vs.toArray n }
section
variable {w : World} {A : Around} {E : Value → Shared → Prop} {s : Shared} {g : Heap} {L a : Addr} {m : Str → Option Value} {news : List (Addr × Obj)} {n : Nat} {x y : Value} {t : Tok}
theorem t_item0 {value slice : PySem.Expr} {Q : Value → Shared → Prop} (N : News g L s.heap news) (hm : (a, tupOf [x, y] n) ∈ news) (h : Q x s)
    (hs : subscripted slice false (.ref a) (.int 0 t) = operate [.ref a, .int 0 t] (getItem (.ref a) (.int 0 t)) := by with_unfolding_all rfl) :
    wpAny (model PG w) A (subscriptTail value slice (.ref a) (.int 0 t)) Q E s :=
  tail_any (T := "tuple") ⟨_, (N _ hm).1, rfl⟩ PySem.F.slot_tuple_getitem.lookup (PySem.P.getItem_tuple (n := n) (N _ hm).1 (by decide) (by decide) (k := 0) (by rfl) (by rfl) h) hs
theorem t_item1 {value slice : PySem.Expr} {Q : Value → Shared → Prop} (N : News g L s.heap news) (hm : (a, tupOf [x, y] n) ∈ news) (h : Q y s)
    (hs : subscripted slice false (.ref a) (.int 1 t) = operate [.ref a, .int 1 t] (getItem (.ref a) (.int 1 t)) := by with_unfolding_all rfl) :
    wpAny (model PG w) A (subscriptTail value slice (.ref a) (.int 1 t)) Q E s :=
  tail_any (T := "tuple") ⟨_, (N _ hm).1, rfl⟩ PySem.F.slot_tuple_getitem.lookup (PySem.P.getItem_tuple (n := n) (N _ hm).1 (by decide) (by decide) (k := 1) (by rfl) (by rfl) h) hs
end
theorem pair_at {r : List (Addr × Obj)} {vs : List Value} {pairs : List (Int × Int)} {i : Nat} {v : Value} (h : DatAll r vs (pairs.map fun p => .tuple [.int p.1, .int p.2])) (e : vs[i]? = some v) :
    ∃ a n k x t u, pairs[i]? = some (k, x) ∧ v = .ref a ∧ (a, tupOf [.int k t, .int x u] n) ∈ r := by
  have hl := h.length
  have hi : i < vs.length := (List.getElem?_eq_some_iff.mp e).1
  obtain ⟨v', e', hd⟩ := h.get (k := i) (by omega)
  rw [e] at e'; cases e'
  rw [List.length_map] at hl
  rw [List.getElem_map] at hd
  obtain ⟨a, ws, n, rfl, hm, hall⟩ := dat_tup hd
  obtain ⟨v1, ws1, rfl, h1, hall⟩ := all_cons hall
  obtain ⟨v2, ws2, rfl, h2, hall⟩ := all_cons hall
  obtain rfl := all_nil hall
  obtain ⟨t, rfl⟩ := dat_int h1
  obtain ⟨u, rfl⟩ := dat_int h2
  exact ⟨a, n, _, _, t, u, List.getElem?_eq_some_iff.mpr ⟨by omega, rfl⟩, rfl, hm⟩
theorem take_at {α : Type} {l : List α} {i : Nat} {x : α} (h : l[i]? = some x) : l.take (i + 1) = l.take i ++ [x] := by simp [List.take_add_one, h]
theorem del_snoc {c : List (Int × Int)} {k x key : Int} : delI (c ++ [(k, x)]) key = if k ≠ key then delI c key ++ [(k, x)] else delI c key := by
  unfold delI; rw [List.filter_append]
  by_cases q : k = key <;> simp [q]
theorem has_snoc {c : List (Int × Int)} {k x j : Int} : kdfHas (c ++ [(k, x)]) j = (kdfHas c j || decide (k = j)) := by unfold kdfHas; simp
theorem has_take {c : List (Int × Int)} {i : Nat} {k x : Int} (h : c[i]? = some (k, x)) : kdfHas c k = true := has_iff.mpr (List.mem_map.mpr ⟨_, List.mem_of_getElem? h, rfl⟩)
theorem look_first {c : List (Int × Int)} {i : Nat} {k x : Int} (h : c[i]? = some (k, x)) (hn : kdfHas (c.take i) k = false) : kdfLook c k 0 = x := by
  induction c generalizing i with
  | nil => simp at h
  | cons p c ih =>
    cases i with
    | zero => simp at h; subst h; rw [look_cons, if_pos rfl]
    | succ i =>
      rw [List.take_succ_cons] at hn
      have hh : kdfHas (p :: c.take i) k = (decide (p.1 = k) || kdfHas (c.take i) k) := rfl
      rw [hh, Bool.or_eq_false_iff] at hn
      rw [look_cons, if_neg (of_decide_eq_false hn.1)]
      exact ih (by simpa using h) hn.2
theorem sub1 {p : Addr × Obj} {r : List (Addr × Obj)} : ∀ q ∈ r, q ∈ p :: r := fun _ hq => .tail _ hq
theorem sub2 {p : Addr × Obj} {r own : List (Addr × Obj)} : ∀ q ∈ r, q ∈ p :: (r ++ own) := fun _ hq => .tail _ (List.mem_append_left _ hq)
section
variable {w : World} {A : Around} {E : Value → Shared → Prop} {s : Shared} {g : Heap} {L d : Addr} {m : Str → Option Value} {news : List (Addr × Obj)} {vs : List Value} {ks : List Int} {n : Nat}
theorem l_sorted {Q : Value → Shared → Prop} (F : Fr g L s.heap m) (N : News g L s.heap news) (hm : (d, listOf vs.toArray n) ∈ news) (hi : IntsAre vs ks) (hs : ks.length ≤ 50)
    (h : ∀ D vs' c h', Fr g L h' m → News g L h' ((D, listOf vs'.toArray c) :: news) → (∀ q ∈ news, q.1 < D) → IntsAre vs' (sortI ks) → Q (.ref D) { s with heap := h' }) :
    wpAny (model PG w) A (call (.builtin "sorted") [.ref d]) Q E s :=
  kso_sorted F N (l_is N hm) hi (by omega) fun D vs' ns' c h' F' N' l1 i' _ p' o' _ => h D vs' c h' F' N' l1 (sortI_uniq p' o' ▸ i')
end
theorem fmod_lt {a b : Int} (h : 0 < b) : 0 ≤ a.fmod b ∧ a.fmod b < b := ⟨Int.fmod_nonneg_of_pos a h, Int.fmod_lt_of_pos a h⟩
theorem ints_dat {r : List (Addr × Obj)} {vs : List Value} {ks : List Int} (h : IntsAre vs ks) : DatAll r vs (ks.map .int) := by
  induction h with
  | nil => exact .nil
  | cons n t _ ih => exact .cons (.int n t) ih
theorem dat_ints {r : List (Addr × Obj)} : ∀ {vs : List Value} {ks : List Int}, DatAll r vs (ks.map .int) → IntsAre vs ks
  | [], [], _ => .nil
  | v :: vs, [], h => by rw [all_nil h]; exact .nil
  | [], k :: ks, h => by obtain ⟨_, _, e, _⟩ := all_cons h; exact nomatch e
  | v :: vs, k :: ks, h => by
    obtain ⟨v', vs', e, h1, h2⟩ := all_cons h
    obtain ⟨t, rfl⟩ := dat_int h1
    rw [(List.cons.inj e).1]
    exact .cons _ _ (dat_ints ((List.cons.inj e).2 ▸ h2))
end Mine
end
section
open PySem PySem.W PySem.Calls PyProof.Rows PyProof.V PySem.Spec
namespace Mine
theorem NSpec.use {w : World} {d : Nat} {f : Addr} {args : List Value} {r : List (Addr × Obj)} {P : Value → List (Addr × Obj) → Prop} (S : NSpec w d f args r P)
    {A : Around} {s : Shared} {g : Heap} {L : Addr} {m : Str → Option Value} {p : Program} {loose : List Str} {mean : ExcName → Option Value} {mg mb : Str → Option Value} {Q E : Value → Shared → Prop}
    (F : Fr g L s.heap m) (N : News g L s.heap r) (X : (KK w.params).In g) (T : Top p loose mean mg mb g) (hd' : A.depth + d < recursionLimit) (hu : A.units + 20 * d < cLine) (hh : A.handled = none)
    (h : ∀ h' tk v l, P v l → (∀ q ∈ r, q ∈ l) → Fr g L h' m → News g L h' (r ++ l) → (∀ b o, s.heap.get? b = some o → h'.get? b = some o) → Q v { s with heap := h', toks := tk }) :
    wpAny (model PG w) A (call (.ref f) args) Q E s :=
  wpAny_call (S A s g L m _ p loose mean mg mb F N X T hd' hu hh fun h' tk v l hl hP F' N' k => h h' tk v l hP hl F' (fun q hq => N' q ((List.mem_append.mp hq).elim (hl q) id)) k.1)
/-- the same, from a frame that holds more; what is new is told -/
theorem NSpec.use2 {w : World} {d : Nat} {f : Addr} {args : List Value} {r : List (Addr × Obj)} {P : Value → List (Addr × Obj) → Prop} (S : NSpec w d f args r P)
    {A : Around} {s : Shared} {g : Heap} {L : Addr} {m : Str → Option Value} {p : Program} {loose : List Str} {mean : ExcName → Option Value} {mg mb : Str → Option Value} {Q E : Value → Shared → Prop} {l₀ : List (Addr × Obj)}
    (F : Fr g L s.heap m) (N₀ : News g L s.heap (l₀ ++ r)) (X : (KK w.params).In g) (T : Top p loose mean mg mb g) (hd' : A.depth + d < recursionLimit) (hu : A.units + 20 * d < cLine) (hh : A.handled = none)
    (h : ∀ h' tk v l, P v l → (∀ q ∈ r, q ∈ l) → Fr g L h' m → News g L h' (l₀ ++ l) → (∀ q ∈ l, q.1 ∈ r.map (·.1) ∨ s.heap.get? q.1 = none) → (∀ b o, s.heap.get? b = some o → h'.get? b = some o) → Q v { s with heap := h', toks := tk }) :
    wpAny (model PG w) A (call (.ref f) args) Q E s :=
  wpAny_call (S A s g L m _ p loose mean mg mb F (fun q hq => N₀ q (List.mem_append_right _ hq)) X T hd' hu hh fun h' tk v l hl hP F' N' k => h h' tk v l hP hl F' (fun q hq => by
    rcases List.mem_append.mp hq with z | z
    · obtain ⟨a, b⟩ := N₀ q (List.mem_append_left _ z)
      exact ⟨k.1 _ _ a, b⟩
    · exact N' q z) k.2 k.1)
/-- half way through making room, in the law's own words -/
structure PutI (r : List (Addr × Obj)) (nums : List Int) (sz : Bool) (room key size : Int) (pairs : List (Int × Int)) (shown : List (List Int)) (n : Nat) (vp vs : Value) (p' : List (Int × Int)) (sh' : List (List Int)) (l : List (Addr × Obj)) : Prop where
  sub : ∀ q ∈ r, q ∈ l
  hp : DatIn l vp (PD p')
  hs : DatIn l vs (SD sh')
  ev : evict sz room nums key size pairs.length pairs shown = evict sz room nums key size n p' sh'
  fuel : n = p'.length
  nd : (p'.map (·.1)).Nodup
  len : sh'.length + p'.length ≤ shown.length + pairs.length
  five : p'.length ≤ 5
theorem PutI.step {r : List (Addr × Obj)} {nums : List Int} {sz : Bool} {room key size : Int} {pairs : List (Int × Int)} {shown : List (List Int)} {n : Nat} {vp vs vp' vs' : Value} {p' : List (Int × Int)} {sh' : List (List Int)} {l l' : List (Addr × Obj)}
    (J : PutI r nums sz room key size pairs shown n vp vs p' sh' l) (hsz : size ≤ room) (hc : roomOf sz (delI p' key) + size > room) (hsub : ∀ q ∈ l, q ∈ l') (hp : DatIn l' vp' (PD (delI p' (picked (p'.map (·.1)) nums sh'.length)))) (hs : DatIn l' vs' (SD (sh' ++ [sortI (p'.map (·.1))]))) :
    PutI r nums sz room key size pairs shown (n - 1) vp' vs' (delI p' (picked (p'.map (·.1)) nums sh'.length)) (sh' ++ [sortI (p'.map (·.1))]) l' ∧ n - 1 < n := by
  have hne : p' ≠ [] := by intro e; rw [e] at hc; unfold delI roomOf at hc; simp at hc; omega
  have hl : 0 < p'.length := List.length_pos_iff.mpr hne
  have hne2 : p'.map (·.1) ≠ [] := fun e => hne (by simpa using e)
  have hm := picked_mem (nums := nums) (n := sh'.length) hne2
  have hlen : (delI p' (picked (p'.map (·.1)) nums sh'.length)).length + 1 ≤ p'.length := by
    have e1 : ((delI p' (picked (p'.map (·.1)) nums sh'.length)).map (·.1)) = (p'.map (·.1)).erase (picked (p'.map (·.1)) nums sh'.length) := by
      rw [del_keys, List.Nodup.erase_eq_filter J.nd]
      refine List.filter_congr fun x _ => ?_
      rw [Bool.eq_iff_iff]; simp
    have e2 := congrArg List.length e1
    rw [List.length_map, List.length_erase_of_mem hm, List.length_map] at e2
    omega
  have hlen2 : (delI p' (picked (p'.map (·.1)) nums sh'.length)).length = p'.length - 1 := by
    have e1 : ((delI p' (picked (p'.map (·.1)) nums sh'.length)).map (·.1)) = (p'.map (·.1)).erase (picked (p'.map (·.1)) nums sh'.length) := by
      rw [del_keys, List.Nodup.erase_eq_filter J.nd]
      refine List.filter_congr fun x _ => ?_
      rw [Bool.eq_iff_iff]; simp
    have e2 := congrArg List.length e1
    rw [List.length_map, List.length_erase_of_mem hm, List.length_map] at e2
    exact e2
  refine ⟨⟨fun q hq => hsub q (J.sub q hq), hp, hs, ?_, ?_, del_nodup J.nd, ?_, ?_⟩, ?_⟩
  · rw [J.ev]
    obtain ⟨k, hk⟩ : ∃ k, n = k + 1 := ⟨n - 1, by rw [J.fuel]; omega⟩
    rw [hk]
    conv => lhs; unfold evict
    rw [if_pos hc, Nat.add_sub_cancel]
  · rw [J.fuel, hlen2]
  · have := J.len; rw [List.length_append, List.length_singleton]; omega
  · have := J.five; omega
  · rw [J.fuel]; omega
theorem l_lenv {w : World} {A : Around} {E : Value → Shared → Prop} {s : Shared} {g : Heap} {L d : Addr} {news : List (Addr × Obj)} {vs : List Value} {n : Nat} {Q : Value → Shared → Prop} (N : News g L s.heap news) (hm : (d, listOf vs.toArray n) ∈ news) (hs : vs.length ≤ 1000)
    (h : Q (.int (vs.length : Nat) (s.toks + 1)) { s with toks := s.toks + 1 + 1 }) : wpAny (model PG w) A (call (.builtin "len") [.ref d]) Q E s := by
  refine call_len_list (l_is N hm) (by rw [List.size_toArray]; omega) ?_
  rw [List.size_toArray]; exact h
theorem l_add {w : World} {A : Around} {E : Value → Shared → Prop} {s : Shared} {g : Heap} {L a b : Addr} {m : Str → Option Value} {news : List (Addr × Obj)} {us ws : List Value} {n k : Nat} {Q : Value → Shared → Prop} (F : Fr g L s.heap m) (N : News g L s.heap news) (ha : (a, listOf us.toArray n) ∈ news) (hb : (b, listOf ws.toArray k) ∈ news)
    (z1 : us.length ≤ 1000) (z2 : ws.length ≤ 1000) (h : ∀ D h', Fr g L h' m → News g L h' ((D, listOf (us ++ ws).toArray 0) :: news) → (∀ p ∈ news, p.1 < D) → Q (.ref D) { s with heap := h' }) :
    wpAny (model PG w) A (binaryOp .Add (.ref a) (.ref b)) Q E s :=
  kmk_add_lit F N (l_is N ha) (l_is N hb) (zs := us ++ ws) (by rw [List.toList_toArray, List.toList_toArray]) h (by rw [sizeLine_eq, List.toList_toArray, List.toList_toArray]; omega)
theorem news_list {g h : Heap} {L : Addr} {l : List (Addr × Obj)} (N : News g L h l) : ∃ z, z = l ∧ News g L h z := ⟨l, rfl, N⟩
end Mine
end
section
open PySem PySem.W PySem.Calls PyProof.Rows PyProof.V PySem.Spec
namespace Mine
section
variable {prog : Program} {w : World} {A : Around} {E : Value → Shared → Prop} {s : Shared} {h₀ : Heap} {L b : Addr} {news n₁ : List (Addr × Obj)} {v : Value} {ds : List Dat} {Q : Value → Shared → Prop}
open Classical in
theorem eq_nil (N : News h₀ L s.heap news) (D : DatIn n₁ v (.list ds)) (sa : ∀ p ∈ n₁, p ∈ news) (mb : (b, listOf #[] 0) ∈ news) (ha : ∀ d ∈ ds, kqdOk 8 d = true) (hu : A.units + 64 < cLine)
    (h0 : ds = [] → Q (.bool true) s) (h1 : ds ≠ [] → Q (.bool false) s) : wpAny (model prog w) A (compareOp .Eq v (.ref b)) Q E s := by
  obtain ⟨a, vs, n, rfl, hm, hall⟩ := dat_list D
  refine kqd_eq N (sa _ hm) rfl rfl hall sa mb rfl rfl .nil (n₂ := []) (fun _ h => nomatch h) ha (fun _ h => nomatch h) hu ?_
  by_cases h : ds = []
  · rw [decide_eq_true h]; exact h0 h
  · rw [decide_eq_false h]; exact h1 h
open Classical in
theorem ne_nil (N : News h₀ L s.heap news) (D : DatIn n₁ v (.list ds)) (sa : ∀ p ∈ n₁, p ∈ news) (mb : (b, listOf #[] 0) ∈ news) (ha : ∀ d ∈ ds, kqdOk 8 d = true) (hu : A.units + 64 < cLine)
    (h0 : ds = [] → Q (.bool false) s) (h1 : ds ≠ [] → Q (.bool true) s) : wpAny (model prog w) A (compareOp .NotEq v (.ref b)) Q E s := by
  obtain ⟨a, vs, n, rfl, hm, hall⟩ := dat_list D
  refine kqd_ne N (sa _ hm) rfl rfl hall sa mb rfl rfl .nil (n₂ := []) (fun _ h => nomatch h) ha (fun _ h => nomatch h) hu ?_
  by_cases h : ds = []
  · rw [decide_eq_true h]; exact h0 h
  · rw [decide_eq_false h]; exact h1 h
end
end Mine
end
section
open PySem PySem.W PySem.Calls PyProof.Rows PyProof.V PySem.Spec
namespace Mine
theorem mv5 {α : Type} {a b c d e t : α} {l : List α} : ∀ q ∈ a :: b :: c :: d :: e :: t :: l, q ∈ t :: a :: b :: c :: d :: e :: l := by
  intro q hq
  simp only [List.mem_cons] at *
  rcases hq with h | h | h | h | h | h | h <;> simp [h]
theorem mem_head {α : Type} {a : α} {l m : List α} (h : m = a :: l) : a ∈ m := by rw [h]; exact .head _
theorem put_on {c : List (Int × Int)} {k v : Int} (h : kdfHas c k = true) : kdfPut c k v = c.map fun p => if decide (p.1 = k) = true then (p.1, v) else p := by
  unfold kdfHas at h
  unfold kdfPut
  rw [if_pos h]
theorem one_int {r : List (Addr × Obj)} {v : Value} {x : Int} (h : DatIn r v (.list [.int x])) : ∃ a vs n, v = .ref a ∧ (a, listOf vs.toArray n) ∈ r ∧ IntsAre vs [x] := by
  obtain ⟨a, vs, n, e, hm, hall⟩ := dat_list h
  exact ⟨a, vs, n, e, hm, dat_ints (ks := [x]) hall⟩
/-- a triple of data, opened -/
theorem tri {r : List (Addr × Obj)} {v : Value} {a b c : Dat} (h : DatIn r v (.tuple [a, b, c])) : ∃ t x y z n, v = .ref t ∧ (t, ({ cls := .type "tuple", data := .seq #[x, y, z] n } : Obj)) ∈ r ∧ DatIn r x a ∧ DatIn r y b ∧ DatIn r z c := by
  obtain ⟨t, vs, n, e, hm, hall⟩ := dat_tup h
  obtain ⟨v1, ws1, rfl, h1, hall⟩ := all_cons hall
  obtain ⟨v2, ws2, rfl, h2, hall⟩ := all_cons hall
  obtain ⟨v3, ws3, rfl, h3, hall⟩ := all_cons hall
  obtain rfl := all_nil hall
  exact ⟨t, _, _, _, n, e, hm, h1, h2, h3⟩
end Mine
end
section
open PySem PySem.W PySem.Calls PyProof.Rows PyProof.V PySem.Spec
namespace Mine
section
variable {prog : Program} {w : World} {A : Around} {s : Shared} {K : Frag} {p : Program} {loose : List Str} {mean : ExcName → Option Value} {mg mb : Str → Option Value}
  {base : Heap} {f : Addr} {R : Result → Shared → Prop} {name qual : Str} {params : Arguments} {body : List Stmt} {scope : Scope} {cl : List (Str × Addr)} {doc pm cdv ct : Value} {fo : Obj}
  {args : Args} {binds : List (Str × Value)} {led : List (Addr × Obj)}
/-- into a closure: its ground is old, what the ledger bears is hidden -/
theorem enterX (X₀ : K.In base) (T₀ : Top p loose mean mg mb base) (hb : ∀ b o, base.get? b = some o → s.heap.get? b = some o) (N : ∀ q ∈ led, s.heap.get? q.1 = some q.2 ∧ base.get? q.1 = none)
    (ho : s.heap.get? f = some fo) (hd : fo.data = .func (fnX name qual params body scope cl .none .none doc pm none cdv ct)) (hcd : s.heap.CodeRec cdv qual) (hroom : A.depth < recursionLimit)
    (hbind : BindsTo s (fnX name qual params body scope cl .none .none doc pm none cdv ct) args binds) (hloc : ∀ y ∈ binds, scope.names.lookup y.1 = some .local)
    (h : ∀ g' L' h₁, Fr g' L' h₁ (fun y => binds.reverse.lookup y) → News g' L' h₁ led → K.In g' → Top p loose mean mg mb g' → (∀ b o, s.heap.get? b = some o → b ∉ led.map (·.1) → g'.get? b = some o) → (∀ q ∈ led, q.1 < L') →
      ∀ E' : Value → Shared → Prop, wpAny (model prog w) (A.deeper (envX qual scope L' f cdv cl)) (execs body (envX qual scope L' f cdv cl)) (Fin R) E' { s with heap := h₁, toks := s.toks + binds.length })
    (hco : scope.isCoroutine = false := by exact rfl) (hgen : scope.isGenerator = false := by exact rfl) (hk : scope.kind = .function := by exact rfl)
    (hcell : ∀ x ∈ scope.names, x.2 ≠ .cell := by decide) : codeAny (model prog w) A (.call (.ref f) args) R s := by
  have st : ∀ b o, base.get? b = some o → (hideAll s.heap (led.map (·.1))).get? b = some o := fun b o e => hideAll_get _ (hb b o e) fun q => by
    obtain ⟨p, hp, rfl⟩ := List.mem_map.mp q
    rw [(N p hp).2] at e; cases e
  refine codeAny_call_def (fd := fnX name qual params body scope cl .none .none doc pm none cdv ct) (body := body) (binds := binds) hroom ho hd (T₀.nolimit.keeps hb) hcd rfl hbind hcell hloc (fun h₁ hns hk₁ => ?_) hco hgen hk
  exact h _ s.heap.objs.size h₁ ⟨hns, fun b o e => hk₁ b o (of_hideAll _ e), Nat.le_of_eq (hideAll_size _ _)⟩
    (fun p hp => ⟨hk₁ _ _ (N p hp).1, Nat.ne_of_lt (Heap.lt_size (N p hp).1), hideAll_none _ (List.mem_map_of_mem hp)⟩) (X₀.keeps st) (T₀.keeps st) (fun b o e n => hideAll_get _ e n) (fun q hq => Heap.lt_size (N q hq).1) _
end
/-- back out of it -/
theorem backX {g g' : Heap} {L L' : Addr} {h h' : Heap} {m m' : Str → Option Value} {c : CL} {o o' : CO} {ex led' : List (Addr × Obj)} (F : Fr g L h m) (N : News g L h (c.led o)) (hex : ∀ q ∈ ex, h.get? q.1 = some q.2)
    (hg : ∀ b o₁, h.get? b = some o₁ → b ∉ (c.led o ++ ex).map (·.1) → g'.get? b = some o₁) (F' : Fr g' L' h' m') (N' : News g' L' h' led') (h1 : ∀ q ∈ c.led o', q ∈ led') (h2 : ∀ q ∈ ex, q ∈ led') :
    Fr g L h' m ∧ News g L h' (c.led o') ∧ Mod c.adr h h' := by
  have M : Mod c.adr h h' := fun b ob hn e => by
    by_cases q : b ∈ ex.map (·.1)
    · obtain ⟨p, hp, rfl⟩ := List.mem_map.mp q
      have e2 := hex p hp
      rw [e] at e2; cases e2
      exact (N' p (h2 p hp)).1
    · exact F'.keep b ob (hg b ob e fun z => by
        rw [List.map_append, List.mem_append] at z
        exact z.elim (fun z => hn (led_adr c o ▸ z)) q)
  have hnone : ∀ a ∈ c.adr, g.get? a = none := fun a hm => by
    rw [← led_adr c o] at hm
    obtain ⟨p, hp, rfl⟩ := List.mem_map.mp hm
    exact (N p hp).2.2
  have hL : ∀ a ∈ c.adr, a ≠ L := fun a hm => by
    rw [← led_adr c o] at hm
    obtain ⟨p, hp, rfl⟩ := List.mem_map.mp hm
    exact (N p hp).2.1
  have inA : ∀ q ∈ c.led o', q.1 ∈ c.adr := fun q hq => led_adr c o' ▸ List.mem_map_of_mem hq
  exact ⟨fr_mod F M (fun q => hL _ q rfl) hnone, fun q hq => ⟨(N' q (h1 q hq)).1, hL _ (inA q hq), hnone _ (inA q hq)⟩, M⟩
theorem lk_seen {a b : Addr} : List.lookup (Str.ofString "seen") [(Str.ofString "seen", b), (Str.ofString "numbers", a)] = some b := by
  rw [List.lookup_cons, show ((Str.ofString "seen") == (Str.ofString "seen")) = true by decide +kernel]
theorem lk_num {a b : Addr} : List.lookup (Str.ofString "numbers") [(Str.ofString "seen", b), (Str.ofString "numbers", a)] = some a := by
  rw [List.lookup_cons, show ((Str.ofString "numbers") == (Str.ofString "seen")) = false by decide +kernel]
  dsimp only
  rw [List.lookup_cons, show ((Str.ofString "numbers") == (Str.ofString "numbers")) = true by decide +kernel]
def bodyS : Stmt → List Stmt
  | .FunctionDef _ _ b .. => b
  | _ => []
/-- the law's closure -/
noncomputable def chObj (cl : List (Str × Addr)) (doc pm : Value) (c' : Addr) (ctv : Value) : Obj :=
  { cls := .type "function", data := .func { fdS (nthS (bodyS (nthS pwBody 14)) 4) "law.<locals>._law_choose" with closure := cl, doc := doc, pyModule := pm, code := .ref c', closureTuple := ctv, builtins := builtinsNs } }
end Mine
end
section
open PySem PySem.W PySem.Calls PyProof.Rows PyProof.V PySem.Spec
namespace Mine
def scopeS : Stmt → Scope
  | .FunctionDef _ _ _ _ _ _ sc .. => sc
  | _ => default
abbrev lawSt : Stmt := nthS pwBody 14
theorem clN {g h : Heap} {L f : Addr} {o1 of' : Obj} {r2 r3 r4 r5 r6 r7 : Addr × Obj} {pt : Array Value} (N : News g L h [(f, o1), r2, r3, r4, r5, r6, (277, tabObj pt), r7]) (e : o1 = of') : ∃ pt, News g L h [(f, of'), r2, r3, r4, r5, r6, (277, tabObj pt), r7] := ⟨pt, e ▸ N⟩
theorem pickN {g h : Heap} {L : Addr} {a b c d e f k : Addr × Obj} (N : News g L h [a, b, c, d, e, f, k]) : News g L h [a, e, f, k] := fun q hq => by
  rcases List.mem_cons.mp hq with rfl | hq
  · exact N _ (.head _)
  · exact N q (.tail _ (.tail _ (.tail _ (.tail _ hq))))
end Mine
end
section
open PySem PySem.W PySem.Calls PyProof.Rows PyProof.V PySem.Spec
namespace Mine
theorem incLt {f : Nat → Nat} {n : Nat} (h : ∀ i, i + 1 < n → f i < f (i + 1)) : ∀ {j : Nat}, j < n → ∀ {i : Nat}, i < j → f i < f j
  | 0, _, _, hi => absurd hi (Nat.not_lt_zero _)
  | j + 1, hj, i, hi => by
    rcases Nat.lt_succ_iff_lt_or_eq.mp hi with e | e
    · exact Nat.lt_trans (incLt h (Nat.lt_of_succ_lt hj) e) (h j hj)
    · rw [e]; exact h j hj
theorem incInj {f : Nat → Nat} {n : Nat} (h : ∀ i, i + 1 < n → f i < f (i + 1)) {i j : Nat} (hi : i < n) (hj : j < n) (e : f i = f j) : i = j := by
  rcases Nat.lt_trichotomy i j with z | z | z
  · exact absurd e (Nat.ne_of_lt (incLt h hj z))
  · exact z
  · exact absurd e.symm (Nat.ne_of_lt (incLt h hi z))
theorem incNodup {f : Nat → Nat} {n : Nat} (h : ∀ i, i + 1 < n → f i < f (i + 1)) : ∀ (l : List Nat), (∀ i ∈ l, i < n) → l.Nodup → (l.map f).Nodup
  | [], _, _ => List.nodup_nil
  | i :: l, hb, hn => by
    rw [List.map_cons, List.nodup_cons]
    rw [List.nodup_cons] at hn
    refine ⟨fun hm => ?_, incNodup h l (fun j hj => hb j (.tail _ hj)) hn.2⟩
    obtain ⟨j, hj, e⟩ := List.mem_map.mp hm
    have := incInj h (hb j (.tail _ hj)) (hb i (.head _)) e
    exact hn.1 (this ▸ hj)
theorem incOff {f : Nat → Nat} {n : Nat} (h : ∀ i, i + 1 < n → f i < f (i + 1)) (l l' : List Nat) (hb : ∀ i ∈ l, i < n) (hb' : ∀ i ∈ l', i < n) (ho : ∀ i ∈ l', i ∉ l) : ∀ a ∈ l'.map f, a ∉ l.map f := by
  intro a ha hm
  obtain ⟨i, hi, rfl⟩ := List.mem_map.mp ha
  obtain ⟨j, hj, e⟩ := List.mem_map.mp hm
  have := incInj h (hb j hj) (hb' i hi) e
  exact ho i hi (this ▸ hj)
theorem chainU {L jk nb al c' f dx x ad ai ak lp lsh : Nat} (h0 : 277 < L) (h1 : L + 1 + 1 < jk) (h2 : jk < nb) (h3 : nb < al) (h4 : al < c') (h5 : c' < f) (h6 : f < dx) (h7 : dx < x) (h8 : x < ad) (h9 : ad < ai) (h10 : ai < ak) (h11 : ak < lp) (h12 : lp < lsh) :
    [x, dx, ad, jk, ai, ak, al].Nodup ∧ ∀ a ∈ [lsh, lp, nb, L + 1 + 1, L + 1, f, c', 277], a ∉ [x, dx, ad, jk, ai, ak, al] := by
  have H : ∀ i, i + 1 < 15 → [277, L + 1, L + 1 + 1, jk, nb, al, c', f, dx, x, ad, ai, ak, lp, lsh].getD i 0 < [277, L + 1, L + 1 + 1, jk, nb, al, c', f, dx, x, ad, ai, ak, lp, lsh].getD (i + 1) 0
    | 0, _ => Nat.lt_succ_of_lt h0
    | 1, _ => Nat.lt_succ_self _
    | 2, _ => h1 | 3, _ => h2 | 4, _ => h3 | 5, _ => h4 | 6, _ => h5 | 7, _ => h6 | 8, _ => h7 | 9, _ => h8 | 10, _ => h9 | 11, _ => h10 | 12, _ => h11 | 13, _ => h12
    | i + 14, h => absurd h (by omega)
  exact ⟨incNodup H [9, 8, 10, 3, 11, 12, 5] (by decide) (by decide), incOff H [9, 8, 10, 3, 11, 12, 5] [14, 13, 4, 2, 1, 7, 6, 0] (by decide) (by decide) (by decide)⟩
theorem chainZ {L jk nb al c' f dx x az ad ai ak lp lsh : Nat} (h0 : 277 < L) (h1 : L + 1 + 1 < jk) (h2 : jk < nb) (h3 : nb < al) (h4 : al < c') (h5 : c' < f) (h6 : f < dx) (h7 : dx < x) (h8 : x < az) (h8' : az < ad) (h9 : ad < ai) (h10 : ai < ak) (h11 : ak < lp) (h12 : lp < lsh) :
    [x, dx, ad, az, ai, ak, al].Nodup ∧ ∀ a ∈ [lsh, lp, nb, L + 1 + 1, L + 1, f, c', 277], a ∉ [x, dx, ad, az, ai, ak, al] := by
  have H : ∀ i, i + 1 < 16 → [277, L + 1, L + 1 + 1, jk, nb, al, c', f, dx, x, az, ad, ai, ak, lp, lsh].getD i 0 < [277, L + 1, L + 1 + 1, jk, nb, al, c', f, dx, x, az, ad, ai, ak, lp, lsh].getD (i + 1) 0
    | 0, _ => Nat.lt_succ_of_lt h0
    | 1, _ => Nat.lt_succ_self _
    | 2, _ => h1 | 3, _ => h2 | 4, _ => h3 | 5, _ => h4 | 6, _ => h5 | 7, _ => h6 | 8, _ => h7 | 9, _ => h8 | 10, _ => h8' | 11, _ => h9 | 12, _ => h10 | 13, _ => h11 | 14, _ => h12
    | i + 15, h => absurd h (by omega)
  exact ⟨incNodup H [9, 8, 11, 10, 12, 13, 5] (by decide) (by decide), incOff H [9, 8, 11, 10, 12, 13, 5] [15, 14, 4, 2, 1, 7, 6, 0] (by decide) (by decide) (by decide)⟩
theorem pickSub {α : Type} (l : List α) (idx : List Nat) : ∀ q ∈ idx.filterMap (fun i => l[i]?), q ∈ l := fun q h => by
  obtain ⟨i, _, e⟩ := List.mem_filterMap.mp h
  exact List.mem_of_getElem? e
theorem reordU {α : Type} {lsh lp ak ai ad x dx f c al nb c1 c2 t jk : α} : ∀ q ∈ [x, dx, ad, jk, ai, ak, al, lsh, lp, nb, c1, c2, f, c, t], q ∈ [lsh, lp, ak, ai, ad, x, dx, f, c, al, nb, c1, c2, t, jk] :=
  pickSub [lsh, lp, ak, ai, ad, x, dx, f, c, al, nb, c1, c2, t, jk] [5, 6, 4, 14, 3, 2, 9, 0, 1, 10, 11, 12, 7, 8, 13]
theorem reordZ {α : Type} {lsh lp ak ai ad az x dx f c al nb c1 c2 t jk : α} : ∀ q ∈ [x, dx, ad, az, ai, ak, al, lsh, lp, nb, c1, c2, f, c, t], q ∈ [lsh, lp, ak, ai, ad, az, x, dx, f, c, al, nb, c1, c2, t, jk] :=
  pickSub [lsh, lp, ak, ai, ad, az, x, dx, f, c, al, nb, c1, c2, t, jk] [6, 7, 4, 5, 3, 2, 10, 0, 1, 11, 12, 13, 8, 9, 14]
theorem freshN {g h : Heap} {L : Addr} {c : CL} {o : CO} {p1 p2 p3 p4 p5 : Addr × Obj} {r : List (Addr × Obj)} (N : News g L h (c.led o ++ p1 :: p2 :: p3 :: p4 :: p5 :: r)) : ∀ a ∈ c.adr ++ [p5.1, p4.1, p3.1], g.get? a = none := by
  intro a ha
  rcases List.mem_append.mp ha with z | z
  · rw [← led_adr c o] at z
    obtain ⟨p, hp, rfl⟩ := List.mem_map.mp z
    exact (N p (List.mem_append_left _ hp)).2.2
  · simp only [List.mem_cons, List.not_mem_nil, or_false] at z
    rcases z with rfl | rfl | rfl
    · exact (N p5 (List.mem_append_right _ (.tail _ (.tail _ (.tail _ (.tail _ (.head _))))))).2.2
    · exact (N p4 (List.mem_append_right _ (.tail _ (.tail _ (.tail _ (.head _)))))).2.2
    · exact (N p3 (List.mem_append_right _ (.tail _ (.tail _ (.head _))))).2.2
theorem reordN {α : Type} {nb j y sl c1 c2 t : α} : ∀ q ∈ [nb, c1, c2, t, j], q ∈ [nb, j, y, sl, c1, c2, t] := pickSub [nb, j, y, sl, c1, c2, t] [0, 4, 5, 6, 1]
theorem newsSub {g h : Heap} {L : Addr} {l l' : List (Addr × Obj)} (N : News g L h l) (hs : ∀ q ∈ l', q ∈ l) : News g L h l' := fun q hq => N q (hs q hq)
/-- behind the loop -/
def LoopQ (w : World) (A : Around) (rest : List Stmt) (env : Env) (Q : Flow → Shared → Prop) (E : Value → Shared → Prop) (f : Flow) (s' : Shared) : Prop := match f with
  | .next => wpAny (model PG w) A (execs rest env) Q E s'
  | f => Q f s'
theorem sysM {a : Nat} (h : 277 < a) : (a == sysModules) = false := by
  rw [beq_eq_false_iff_ne]
  exact Nat.ne_of_gt (Nat.lt_of_le_of_lt (by decide) h)
end Mine
end
section
open PySem PySem.W PySem.Calls PyProof.Rows PyProof.V PySem.Spec
namespace Mine
/-- what holds of the plain list between the deeds -/
structure PI (sz : Bool) (room : Int) (c : List (Int × Int)) : Prop where
  nd : (c.map (·.1)).Nodup
  rng : ∀ p ∈ c, 0 ≤ p.1 ∧ p.1 < 5
  pos : ∀ p ∈ c, 0 ≤ (if sz then sizeOf p.2 else 1)
  room : roomOf sz c ≤ room
theorem PI.nil {sz : Bool} {room : Int} (h : 0 ≤ room) : PI sz room [] := ⟨List.nodup_nil, fun _ h => (nomatch h), fun _ h => (nomatch h), h⟩
theorem PI.five {sz : Bool} {room : Int} {c : List (Int × Int)} (P : PI sz room c) : c.length ≤ 5 := by
  have := short5 P.nd (fun x hx => by obtain ⟨p, hp, rfl⟩ := List.mem_map.mp hx; exact P.rng p hp)
  rwa [List.length_map] at this
theorem room_filter {sz : Bool} (q : Int × Int → Bool) : ∀ {c : List (Int × Int)}, (∀ p ∈ c, 0 ≤ (if sz then sizeOf p.2 else 1)) → roomOf sz (c.filter q) ≤ roomOf sz c
  | [], _ => Int.le_refl _
  | p :: c, h => by
    have ih := room_filter (sz := sz) q (c := c) fun x hx => h x (.tail _ hx)
    have hp := h p (.head _)
    rw [List.filter_cons]
    split
    · rw [room_cons, room_cons]; omega
    · rw [room_cons]; omega
theorem PI.del {sz : Bool} {room : Int} {c : List (Int × Int)} (P : PI sz room c) (k : Int) : PI sz room (delI c k) :=
  ⟨del_nodup P.nd, fun p hp => P.rng p (List.mem_filter.mp hp).1, fun p hp => P.pos p (List.mem_filter.mp hp).1, Int.le_trans (room_filter _ P.pos) P.room⟩
theorem del_len {c : List (Int × Int)} {k : Int} (hn : (c.map (·.1)).Nodup) (hm : k ∈ c.map (·.1)) : (delI c k).length = c.length - 1 := by
  have e1 : ((delI c k).map (·.1)) = (c.map (·.1)).erase k := by
    rw [del_keys, List.Nodup.erase_eq_filter hn]
    refine List.filter_congr fun x _ => ?_
    rw [Bool.eq_iff_iff]; simp
  have e2 := congrArg List.length e1
  rw [List.length_map, List.length_erase_of_mem hm, List.length_map] at e2
  exact e2
theorem PI.evict {sz : Bool} {room : Int} {nums : List Int} {key size : Int} (h0 : size ≤ room) : ∀ (n : Nat) {c : List (Int × Int)} {sh : List (List Int)}, c.length = n → PI sz room c →
    PI sz room (evict sz room nums key size n c sh).1 ∧ (evict sz room nums key size n c sh).2.length ≤ sh.length + n ∧ roomOf sz (delI (evict sz room nums key size n c sh).1 key) + size ≤ room
  | 0, c, sh, hl, P => by
    have hc : c = [] := List.length_eq_zero_iff.mp hl
    subst hc
    refine ⟨P, Nat.le_refl _, ?_⟩
    show (0 : Int) + size ≤ room
    omega
  | n + 1, c, sh, hl, P => by
    unfold Mine.evict
    split
    · rename_i hc
      have hne : c.map (·.1) ≠ [] := fun e => by rw [List.map_eq_nil_iff.mp e] at hl; cases hl
      have hm := picked_mem (nums := nums) (n := sh.length) hne
      obtain ⟨a, b, d⟩ := PI.evict h0 n (c := delI c (picked (c.map (·.1)) nums sh.length)) (sh := sh ++ [sortI (c.map (·.1))]) (by rw [del_len P.nd hm, hl]; rfl) (P.del _)
      refine ⟨a, ?_, d⟩
      rw [List.length_append, List.length_singleton] at b
      omega
    · rename_i hc
      exact ⟨P, Nat.le_add_right _ _, by show roomOf sz (delI c key) + size ≤ room; omega⟩
theorem PI.put {sz : Bool} {room : Int} {c : List (Int × Int)} {key v : Int} (P : PI sz room c) (hk : 0 ≤ key ∧ key < 5) (hs : 0 ≤ (if sz then sizeOf v else 1)) (hr : roomOf sz (delI c key) + (if sz then sizeOf v else 1) ≤ room) : PI sz room (kdfPut c key v) := by
  have hmem : ∀ p ∈ kdfPut c key v, p = (key, v) ∨ p ∈ c := fun p hp => by
    cases h : kdfHas c key with
    | true =>
      unfold kdfPut at hp
      unfold kdfHas at h
      rw [if_pos h] at hp
      obtain ⟨q, hq, rfl⟩ := List.mem_map.mp hp
      split
      · rename_i e; exact .inl (by rw [of_decide_eq_true e])
      · exact .inr hq
    | false =>
      rw [put_off h] at hp
      rcases List.mem_append.mp hp with h | h
      · exact .inr h
      · exact .inl (List.mem_singleton.mp h)
  refine ⟨put_nodup P.nd, fun p hp => ?_, fun p hp => ?_, ?_⟩
  · rcases hmem p hp with rfl | h
    · exact hk
    · exact P.rng p h
  · rcases hmem p hp with rfl | h
    · exact hs
    · exact P.pos p h
  · cases h : kdfHas c key with
    | true => rw [room_put_in sz P.nd h]; exact hr
    | false => rw [room_put_off sz h]; rw [del_off h] at hr; exact hr
theorem PI.due {sz : Bool} {room : Int} {nums : List Int} {c : List (Int × Int)} {sh : List (List Int)} {d key value : Int} {ans : Dat} {c' : List (Int × Int)} {sh' : List (List Int)} (P : PI sz room c) (hk : 0 ≤ key ∧ key < 5) (h0 : 0 ≤ room)
    (e : dueL sz room nums c sh d key value = (ans, c', sh')) : PI sz room c' ∧ sh'.length ≤ sh.length + 5 := by
  have h5 := P.five
  by_cases hd : d < 2 ∨ (d = 6 ∧ kdfHas c key = false)
  · by_cases hok : 0 ≤ (if sz then sizeOf value else 1) ∧ (if sz then sizeOf value else 1) ≤ room
    · rw [due_stored hd hok] at e
      obtain ⟨a, b, d⟩ := PI.evict (nums := nums) (key := key) hok.2 c.length (sh := sh) rfl P
      cases e
      exact ⟨a.put hk hok.1 d, by omega⟩
    · rw [due_refused hd hok] at e
      cases e; exact ⟨P, Nat.le_add_right _ _⟩
  · unfold dueL at e
    rw [if_neg hd] at e
    split at e
    · cases e; exact ⟨P, Nat.le_add_right _ _⟩
    · split at e
      · split at e
        · cases e; exact ⟨P, Nat.le_add_right _ _⟩
        · cases e; exact ⟨P.del _, by rw [List.length_append, List.length_singleton]; omega⟩
      · split at e
        · cases e; exact ⟨PI.nil h0, Nat.le_add_right _ _⟩
        · split at e
          · cases e; exact ⟨P, Nat.le_add_right _ _⟩
          · split at e
            · cases e; exact ⟨P.del _, Nat.le_add_right _ _⟩
            · cases e; exact ⟨P, Nat.le_add_right _ _⟩
end Mine
end
section
open PySem PySem.W PySem.Calls PyProof.Rows PyProof.V PySem.Spec
namespace Mine
theorem DSpec.use {w : World} {args : List Value} {c : CL} {o : CO} {Pre : Heap → Prop} {P : Heap → Heap → Value → CO → Prop} (S : DSpec w args c o Pre P)
    {A₀ : Around} {s : Shared} {base : Heap} {L a : Addr} {m : Str → Option Value} {cn : Str} {cs : Scope} {ccd : Value} {p : Program} {loose : List Str} {mean : ExcName → Option Value} {mg mb : Str → Option Value} {lx : List (Addr × Obj)} {Q E : Value → Shared → Prop}
    (B : Below A₀ base [] base) (F : Fr base L s.heap m) (N : News base L s.heap (c.led o ++ lx)) (hoff : ∀ q ∈ lx, q.1 ∉ c.adr) (X : (KK w.params).In base) (T : Top p loose mean mg mb base) (hck : cs.kind = .function) (hd : A₀.depth + 80 < recursionLimit) (hu : A₀.units + 1600 < cLine) (hh : A₀.handled = none) (hpre : Pre s.heap)
    (h : ∀ h' tk v o', P s.heap h' v o' → Fr base L h' m → News base L h' (c.led o' ++ lx) → (∀ b, s.heap.get? b = none → b ≠ L ∧ base.get? b = none ∧ b ∉ c.adr) → (∀ b o₁, b ≠ L → b ∉ c.adr → s.heap.get? b = some o₁ → h'.get? b = some o₁) → Q v { s with heap := h', toks := tk }) :
    wpAny (model PG w) (A₀.deeper (envOfC cn cs L a ccd)) (call (.ref 270) args) Q E s := by
  refine wpAny_call (S A₀ s base L a m cn cs ccd _ p loose mean mg mb B F (fun q hq => N q (List.mem_append_left _ hq)) X T hck hd hu hh hpre fun h' tk v o' hP F' N' keep => ?_)
  refine h h' tk v o' hP F' (fun q hq => ?_) (fun b hb => ⟨?_, ?_, ?_⟩) keep
  · rcases List.mem_append.mp hq with z | z
    · exact N' q z
    · obtain ⟨x, y1, y2⟩ := N q (List.mem_append_right _ z)
      exact ⟨keep _ _ y1 (hoff q z) x, y1, y2⟩
  · intro e
    obtain ⟨oL, _, _, hLo, _⟩ := F.ns
    rw [e, hLo] at hb; cases hb
  · cases z : base.get? b with
    | none => rfl
    | some o₁ => rw [F.keep _ _ z] at hb; cases hb
  · exact fun q => adr_some (fun p hp => N p (List.mem_append_left _ hp)) b q hb
/-- objects made meanwhile join the ledger -/
theorem newsAdd {base h h' : Heap} {L : Addr} {l r : List (Addr × Obj)} {S : List Addr} (N : News base L h' l) (fr : ∀ b, h.get? b = none → b ≠ L ∧ base.get? b = none ∧ b ∉ S) (hr : ∀ q ∈ r, h.get? q.1 = none ∧ h'.get? q.1 = some q.2) : News base L h' (l ++ r) := fun q hq => by
  rcases List.mem_append.mp hq with z | z
  · exact N q z
  · obtain ⟨a, b⟩ := hr q z
    obtain ⟨x, y, _⟩ := fr _ a
    exact ⟨b, x, y⟩
theorem due_ans {sz : Bool} {room : Int} {nums : List Int} {c : List (Int × Int)} {sh : List (List Int)} {d key value : Int} {ans : Dat} {c' : List (Int × Int)} {sh' : List (List Int)} (e : dueL sz room nums c sh d key value = (ans, c', sh')) :
    ∃ ds, ans = .list ds ∧ ((∀ d ∈ ds, kqdOk 8 d = true) ∨ ∃ b, ds = [.bool b]) := by
  have oi : ∀ x : Int, ∀ d ∈ [Dat.int x], kqdOk 8 d = true := fun x d hd => by rw [List.mem_singleton.mp hd]; rfl
  have om : ∀ d ∈ [Dat.str (Str.ofString "missing")], kqdOk 8 d = true := fun d hd => by rw [List.mem_singleton.mp hd]; decide +kernel
  have or : ∀ d ∈ [Dat.str (Str.ofString "refused")], kqdOk 8 d = true := fun d hd => by rw [List.mem_singleton.mp hd]; decide +kernel
  by_cases hd : d < 2 ∨ (d = 6 ∧ kdfHas c key = false)
  · by_cases hok : 0 ≤ (if sz then sizeOf value else 1) ∧ (if sz then sizeOf value else 1) ≤ room
    · rw [due_stored hd hok] at e
      cases e
      refine ⟨_, rfl, .inl ?_⟩
      split
      · exact oi _
      · exact fun _ h => nomatch h
    · rw [due_refused hd hok] at e
      cases e; exact ⟨_, rfl, .inl or⟩
  · unfold dueL at e
    rw [if_neg hd] at e
    split at e
    · cases e; exact ⟨_, rfl, .inr ⟨_, rfl⟩⟩
    · split at e
      · split at e
        · cases e; exact ⟨_, rfl, .inl om⟩
        · cases e; exact ⟨_, rfl, .inl fun d hd => by rw [List.mem_singleton.mp hd]; rfl⟩
      · split at e
        · cases e; exact ⟨_, rfl, .inl fun _ h => nomatch h⟩
        · split at e
          · cases e
            split
            · exact ⟨_, rfl, .inl (oi _)⟩
            · split
              · exact ⟨_, rfl, .inl (oi _)⟩
              · exact ⟨_, rfl, .inl om⟩
          · split at e
            · cases e
              refine ⟨_, rfl, .inl ?_⟩
              split
              · exact fun _ h => nomatch h
              · exact oi _
            · cases e; exact ⟨_, rfl, .inl (oi _)⟩
section
variable {prog : Program} {w : World} {A : Around} {E : Value → Shared → Prop} {s : Shared} {h₀ : Heap} {L : Addr} {news n₁ n₂ : List (Addr × Obj)} {u v : Value} {ds : List Dat} {Q : Value → Shared → Prop}
/-- the same data on both sides -/
theorem ne_same (N : News h₀ L s.heap news) (Da : DatIn n₁ u (.list ds)) (sa : ∀ p ∈ n₁, p ∈ news) (Db : DatIn n₂ v (.list ds)) (sb : ∀ p ∈ n₂, p ∈ news) (hds : (∀ d ∈ ds, kqdOk 8 d = true) ∨ ∃ b, ds = [.bool b]) (hu : A.units + 64 < cLine) (h : Q (.bool false) s) :
    wpAny (model prog w) A (compareOp .NotEq u v) Q E s := by
  obtain ⟨a, va, na, rfl, ma, Da⟩ := dat_list Da
  obtain ⟨b, vb, nb, rfl, mb, Db⟩ := dat_list Db
  rcases hds with ok | ⟨b, rfl⟩
  · refine kqd_ne N (sa _ ma) rfl rfl Da sa (sb _ mb) rfl rfl Db sb ok ok hu ?_
    have e : ∀ i : Decidable (ds = ds), (!@decide (ds = ds) i) = false := fun i => by simp
    rw [e]; exact h
  · cases Da with
    | cons a1 a2 =>
      cases a2; cases a1
      cases Db with
      | cons b1 b2 =>
        cases b2; cases b1
        have ra : ∀ h : Heap, ReadsAll h [Value.bool b] [PyData.bool b] ([] ++ []) := fun h => ReadsAll.cons (Reads.bool b) ReadsAll.nil
        refine ne_dataH (reads_list_at (N.get (sa _ ma)) rfl rfl (ra _)) (reads_list_at (N.get (sb _ mb)) rfl rfl (ra _)) ?_ ?_ hu ?_
        · cases b <;> decide
        · cases b <;> decide
        · have e : PyData.eqv (.list [.bool b]) (.list [.bool b]) = true := by cases b <;> decide
          rw [e]; exact h
end
end Mine
end
section
open PySem PySem.W PySem.Calls PyProof.Rows PyProof.V PySem.Spec
namespace Mine
/-- between two turns of the law's loop -/
structure LJ (w : World) (c : CL) (nums : List Int) (room : Int) (sz : Bool) (f : Addr) (st0 : List (Addr × Obj)) (i : Nat) (vp vsh : Value) (o : CO) (st : CS) (shown : List (List Int)) (sr lx : List (Addr × Obj)) : Prop where
  sub : ∀ q ∈ st0, q ∈ lx
  off : ∀ q ∈ lx, q.1 ∉ c.adr
  ci : CI w c o st
  e1 : st.sz = sz
  e2 : st.room = room
  e3 : st.fch = f
  wf : WfK (st.pairs.map (·.1)) st.ks st.ix
  pi : PI sz room st.pairs
  us : o.us = refsOf sr
  seen : SeenR sr shown
  srx : ∀ q ∈ sr, q ∈ lx
  hp : DatIn lx vp (PD st.pairs)
  hsh : DatIn lx vsh (SD shown)
  len : shown.length ≤ 5 * i
theorem mvC {c : CL} {o : CO} {d : Addr × Obj} {l : List (Addr × Obj)} : ∀ q ∈ c.led o ++ d :: l, q ∈ d :: (c.led o ++ l) := by
  intro q h
  rcases List.mem_append.mp h with h | h
  · exact .tail _ (List.mem_append_left _ h)
  · rcases List.mem_cons.mp h with rfl | h
    · exact .head _
    · exact .tail _ (List.mem_append_right _ h)
/-- the ledger in a turn, three entries said twice -/
theorem turnN {g h : Heap} {L : Addr} {c : CL} {o : CO} {p1 p2 p3 : Addr × Obj} {r lx own : List (Addr × Obj)} (N : News g L h (c.led o ++ lx ++ own)) (hs : ∀ q ∈ p1 :: p2 :: p3 :: r, q ∈ lx) : News g L h (c.led o ++ p1 :: p2 :: p3 :: (lx ++ own)) := fun q hq => by
  refine N q ?_
  rw [List.append_assoc]
  rcases List.mem_append.mp hq with h | h
  · exact List.mem_append_left _ h
  · refine List.mem_append_right _ ?_
    rcases List.mem_cons.mp h with rfl | h
    · exact List.mem_append_left _ (hs _ (.head _))
    rcases List.mem_cons.mp h with rfl | h
    · exact List.mem_append_left _ (hs _ (.tail _ (.head _)))
    rcases List.mem_cons.mp h with rfl | h
    · exact List.mem_append_left _ (hs _ (.tail _ (.tail _ (.head _))))
    exact h
/-- the law's names -/
abbrev lawM (vn vd vk vv vdue : Option Value) (vp vsh : Value) (x f : Addr) (sz : Bool) (room : Int) (tr : Tok) (a : Addr) : Str → Option Value := fun y =>
  if y = Str.ofString "due" then vdue else if y = Str.ofString "value" then vv else if y = Str.ofString "key" then vk else if y = Str.ofString "deed" then vd else if y = Str.ofString "n" then vn else
  if y = Str.ofString "shown" then some vsh else if y = Str.ofString "pairs" then some vp else if y = Str.ofString "cache" then some (.ref x) else if y = Str.ofString "_law_choose" then some (.ref f) else if y = Str.ofString "sized" then some (.bool sz) else if y = Str.ofString "room" then some (.int room tr) else if y = Str.ofString "script" then some (.ref a) else none
theorem lawM_start {vp vsh : Value} {x f : Addr} {sz : Bool} {room : Int} {tr : Tok} {a : Addr} (y : Str) : (if y = Str.ofString "shown" then some vsh else if y = Str.ofString "pairs" then some vp else if y = Str.ofString "cache" then some (.ref x) else if y = Str.ofString "_law_choose" then some (.ref f) else if y = Str.ofString "sized" then some (.bool sz) else if y = Str.ofString "room" then some (.int room tr) else if y = Str.ofString "script" then some (.ref a) else none) = lawM none none none none none vp vsh x f sz room tr a y := by
  by_cases h1 : y = Str.ofString "due"
  · subst h1; rfl
  by_cases h2 : y = Str.ofString "value"
  · subst h2; rfl
  by_cases h3 : y = Str.ofString "key"
  · subst h3; rfl
  by_cases h4 : y = Str.ofString "deed"
  · subst h4; rfl
  by_cases h5 : y = Str.ofString "n"
  · subst h5; rfl
  simp only [lawM, if_neg h1, if_neg h2, if_neg h3, if_neg h4, if_neg h5]
theorem lawM_n {vn vd vk vv vdue : Option Value} {vp vsh v : Value} {x f : Addr} {sz : Bool} {room : Int} {tr : Tok} {a : Addr} (y : Str) : (if y = Str.ofString "n" then some v else lawM vn vd vk vv vdue vp vsh x f sz room tr a y) = lawM (some v) vd vk vv vdue vp vsh x f sz room tr a y := by
  by_cases h1 : y = Str.ofString "due"
  · subst h1; rfl
  by_cases h2 : y = Str.ofString "value"
  · subst h2; rfl
  by_cases h3 : y = Str.ofString "key"
  · subst h3; rfl
  by_cases h4 : y = Str.ofString "deed"
  · subst h4; rfl
  by_cases h5 : y = Str.ofString "n"
  · subst h5; rfl
  simp only [lawM, if_neg h1, if_neg h2, if_neg h3, if_neg h4, if_neg h5]
end Mine
end
section
open PySem PySem.W PySem.Calls PyProof.Rows PyProof.V PySem.Spec
namespace Mine
theorem seen_dat {r l : List (Addr × Obj)} {sh : List (List Int)} (S : SeenR r sh) (hs : ∀ q ∈ r, q ∈ l) : DatAll l (refsOf r) (sh.map fun l => .list (l.map .int)) := by
  induction S with
  | nil => exact .nil
  | cons a vs n hi _ ih => exact .cons (.list (hs _ (.head _)) (ints_dat hi)) (ih fun q hq => hs q (.tail _ hq))
theorem okInts (l : List Int) : ∀ n, ∀ d ∈ l.map Dat.int, kqdOk n d = true := fun n d hd => by
  obtain ⟨x, _, rfl⟩ := List.mem_map.mp hd
  cases n <;> rfl
theorem okSD (sh : List (List Int)) : ∀ d ∈ sh.map (fun l => Dat.list (l.map Dat.int)), kqdOk 8 d = true := fun d hd => by
  obtain ⟨l, _, rfl⟩ := List.mem_map.mp hd
  show (l.map Dat.int).all (kqdOk 7) = true
  exact List.all_eq_true.mpr (okInts l 7)
theorem okPD (c : List (Int × Int)) : ∀ d ∈ c.map (fun p => Dat.tuple [Dat.int p.1, Dat.int p.2]), kqdOk 8 d = true := fun d hd => by
  obtain ⟨l, _, rfl⟩ := List.mem_map.mp hd
  rfl
theorem adr_lt {c : CL} {o : CO} {l : List (Addr × Obj)} {b : Addr} (h : ∀ p ∈ c.led o ++ l, p.1 < b) : ∀ y ∈ c.adr, y < b := fun y hy => by
  rw [← led_adr c o] at hy
  obtain ⟨p, hp, rfl⟩ := List.mem_map.mp hy
  exact h p (List.mem_append_left _ hp)
theorem newsL {g h : Heap} {L : Addr} {e0 : Addr × Obj} {l r : List (Addr × Obj)} (N : News g L h (e0 :: (l ++ r))) : News g L h l := fun q hq => N q (.tail _ (List.mem_append_left _ hq))
theorem newsR {g h : Heap} {L : Addr} {e0 : Addr × Obj} {l r : List (Addr × Obj)} (N : News g L h (e0 :: (l ++ r))) : News g L h r := fun q hq => N q (.tail _ (List.mem_append_right _ hq))
theorem adr_off {c : CL} {o : CO} {l : List (Addr × Obj)} {b : Addr} (h : ∀ p ∈ c.led o ++ l, p.1 < b) : b ∉ c.adr := fun z => Nat.lt_irrefl _ (adr_lt h _ z)
theorem ltAll {l : Addr} : ∀ {ns : List (Addr × Obj)}, AllLt l ns → ∀ p ∈ ns, p.1 < l
  | [], _, _, h => nomatch h
  | q :: ns, H, p, h => by
    rcases List.mem_cons.mp h with rfl | h
    · exact H.1
    · exact ltAll H.2 p h
theorem roomD {A : Around} {e : Env} {n k : Nat} (h : A.depth + n < recursionLimit) (hk : Nat.ble (1 + k) n = true) : (A.deeper e).depth + k < recursionLimit := by
  have := Nat.le_of_ble_eq_true hk
  rw [depth_deeper]; omega
theorem roomU {A : Around} {e : Env} {n k : Nat} (h : A.units + 20 * n < cLine) (hk : Nat.ble (3 + 20 * k) (20 * n) = true) : (A.deeper e).units + 20 * k < cLine := by
  have := Nat.le_of_ble_eq_true hk
  rw [units_deeper]; omega
theorem roomU1 {A : Around} {e : Env} {n k : Nat} (h : A.units + 20 * n < cLine) (hk : Nat.ble (4 + 20 * k) (20 * n) = true) : (A.deeper e).in1.units + 20 * k < cLine := by
  have := Nat.le_of_ble_eq_true hk
  rw [units_in1, units_deeper]; omega
theorem roomC {A : Around} {e : Env} {n k : Nat} (h : A.units + 20 * n < cLine) (hk : Nat.ble (3 + k) (20 * n) = true) : (A.deeper e).units + k < cLine := by
  have := Nat.le_of_ble_eq_true hk
  rw [units_deeper]; omega
theorem roomA {a n : Nat} (h : a + n < recursionLimit) : a < recursionLimit := Nat.lt_of_le_of_lt (Nat.le_add_right _ _) h
end Mine
end
open PySem PySem.W PySem.Calls PyProof.Rows PyProof.V PySem.Spec
set_option maxHeartbeats 4000000
namespace Mine
theorem fill_now : PySem.Challenge.rw_jx0005_01.Holds → ∀ P, KK P = KK P := by k_fill; intros; rfl
local macro_rules | `(tactic| k_get) => `(tactic| assumption)
local macro_rules | `(tactic| k_ne) => `(tactic| first | assumption | exact Ne.symm (by assumption))
local macro_rules | `(tactic| k_steps) => `(tactic| repeat' (first | (k_unfold; (try dsimp only)) | ((fail_if_success (with_reducible show wpAny _ _ (call (Value.ref _) _) _ _ _)); (fail_if_success (with_reducible show Fin _ _ _)); (fail_if_success (with_reducible show wpAny _ _ (leaving _ _) _ _ _)); (fail_if_success (with_reducible show wpAny _ _ (exec (Stmt.For _ _ _ _ _) _) _ _ _)); (fail_if_success (with_reducible show wpAny _ _ (exec (Stmt.Assign _ (PySem.Expr.ListComp _ _ _ _) _) _) _ _ _)); (fail_if_success (with_reducible show wpAny _ _ (pyIter (Value.ref _)) _ _ _)); (fail_if_success (with_reducible show InvPostG _ _ _ _ _ _ _ _)); (fail_if_success (with_reducible show wpAny _ _ (exec (Stmt.While _ _ _ _) _) _ _ _)); (fail_if_success (with_reducible show StepE _ _ _ _ _ _ _ _ _ _ _ _ _ _ _ _)); first | walk1 | (dsimp only; walk1))))
local macro_rules | `(tactic| ktr_enter) => `(tactic| (refine' enterM ?k1 ?k2 ?k3 ?k4 ?k6 ?k7 ?k8 ?k9 ?kB ?_ ?c2 ?c3 ?c4 ?c5; (case k1 => assumption); (case k2 => assumption); (case k3 => assumption); (case k4 => assumption); (case k6 => k_is); (case k7 => k_is); (case k8 => first | exact roomA (by assumption) | ((try simp only [depth_deeper, depth_in1] at *); omega)); (case k9 => first | exact BindsTo.of_eq rfl | exact binds_K (by k_in) rfl (by k_is) rfl rfl rfl); (case kB => exact locs rfl); (case c2 => exact rfl); (case c3 => exact rfl); (case c4 => exact rfl); (case c5 => decide); k_whole))
theorem words_now : True := by
  k_with "compareOp In int ref" => (k_here; refine d_in (by k_asm) (by k_mem) (by assumption) (by assumption) ?_; k_whole)
  k_with "compareOp NotIn int ref" => (k_here; refine d_notin (by k_asm) (by k_mem) (by assumption) (by assumption) ?_; k_whole)
  k_with "subscriptTail" => (k_here; (with_reducible show wpAny _ _ (subscriptTail _ _ (Value.ref _) (Value.int _ _)) _ _ _); refine d_item (by k_asm) (by k_mem) (by assumption) (by assumption) (by assumption) ?_; k_whole; intro _)
  k_with "getMethod ref" => (k_here; refine d_meth (by exact rfl) (by k_asm) (by k_mem) (by assumption) (by assumption) ?_; k_whole)
  k_with "call builtin:dict.pop" => (k_here; refine d_pop (by k_asm) (by k_asm) (by k_updF) (by assumption) (by assumption) (by assumption) ?_; k_whole; intro h'w9 o'w9 t'w9 F'w9 N'w9 D'w9; (try dsimp only at N'w9); (try k_sweep))
  k_with "delItem ref int" => (k_here; refine d_del (by k_asm) (by k_asm) (by k_updF) (by assumption) (by assumption) (by assumption) ?_; k_whole; intro h'w9 o'w9 F'w9 N'w9 D'w9; (try dsimp only at N'w9); (try k_sweep))
  k_with "setAttr ref" => (k_here; refine set_own (by k_asm) (by k_asm) (by k_asm) (by k_mem) (by k_mem) (by k_updF) (by assumption) (by assumption) (by k_is) (by k_is) (by k_is) (by k_is) ?_; k_whole; intro h'w9 es'w9 n'w9 F'w9 N'w9 hp'w9 hes'w9; (try dsimp only at N'w9); (try k_sweep))
  k_with "call builtin:len" => (k_here; (with_reducible show wpAny _ _ (call (Value.builtin "len") [Value.ref _]) _ _ _); refine l_len (by k_asm) (by k_mem) (by assumption) (by assumption) ?_; k_whole)
  k_with "call builtin:list.pop" => (k_here; refine l_pop (by k_asm) (by k_asm) (by k_upd) (by assumption) (by first | assumption | (simp only [List.length_set]; assumption)) (by first | assumption | (simp only [List.length_set]; assumption)) ?_; k_whole; intro h'w9 v'w9 F'w9 N'w9 i'w9; (try k_sweep))
  k_with "call builtin:list.append" => (k_here; (with_reducible show wpAny _ _ (call (Value.builtin _) [Value.ref _, Value.int _ _]) _ _ _); refine l_append (by k_asm) (by k_asm) (by k_upd) (by assumption) (by assumption) ?_; k_whole; intro h'w9 F'w9 N'w9 i'w9; (try k_sweep))
  k_with "setItem ref int" => (k_here; (with_reducible show wpAny _ _ (setItem (Value.ref _) (Value.int _ _) (Value.int _ _)) _ _ _); first
  | (refine d_set (by k_asm) (by k_asm) (by k_updF) (by assumption) (by assumption) ?_; k_whole; intro h'w9 o'w9 F'w9 N'w9 D'w9; (try dsimp only at N'w9); (try k_sweep))
  | (refine l_set (by k_asm) (by k_asm) (by k_upd) (by assumption) (by assumption) (by assumption) (by assumption) ?_; k_whole; intro h'w9 F'w9 N'w9 i'w9; (try k_sweep)))
  k_with "subscriptTail" => (k_here; (with_reducible show wpAny _ _ (subscriptTail _ _ (Value.ref _) (Value.int (-1) _)) _ _ _); refine l_last (by k_asm) (by k_mem) (by assumption) (by assumption) ?_; k_whole; intro _)
  k_with "truthy ref" => (k_here; refine l_truthyT (by k_asm) (by k_mem) (by assumption) (by assumption) (by assumption) ?_; k_whole)
  k_with "delItem ref int" => (k_here; refine del_inst (by k_asm) (by k_asm) (by k_inst) (by k_is) (by k_is) (by k_is) ?_; k_whole)
  k_with "callWith ref" => (k_here; refine callWith_F (by exact FnS.at (by assumption) (by assumption)) ?_; k_whole)
  k_with "And" => ((with_reducible show FnAt _ _ ∧ _); refine ⟨FnS.at (by assumption) (by assumption), ?_⟩; try dsimp only [List.nil_append, List.cons_append])
  k_with "getMethod ref" => (k_here; (with_reducible show wpAny _ _ (getMethod (Value.ref _) (Str.ofString "getsizeof") _) _ _ _); refine meth_ownS (by k_asm) (by k_asm) (by k_inst) (by k_is) (by k_is) (by k_is) (by k_is) (by k_is) (by k_is) (by k_get) (by k_handed) ?_; k_whole)
  k_with "compareOp Is int ref" => (k_here; refine wpAny_is_other (by rfl) (by intro xw9; cases xw9) ?_)
  k_with "call builtin:dict.clear" => (k_here; (try dsimp only); refine d_clear (by k_asm) (by k_asm) (by k_updF) (by assumption) (by assumption) ?_; k_whole; intro h'w9 o'w9 F'w9 N'w9 D'w9; (try dsimp only at N'w9); (try k_sweep))
  k_with "call builtin:len" => (k_here; (with_reducible show wpAny _ _ (call (Value.builtin "len") [Value.ref _]) _ _ _); refine d_len (by k_asm) (by k_mem) (by assumption) (by assumption) (by assumption) ?_; k_whole)
  k_with "exec Raise some none" => (refine Raise_new (by assumption) ?_)
  k_with "call builtin:dict.pop" => (k_here; refine d_pop_miss (by k_asm) (by k_mem) (by assumption) (by assumption) (by assumption) (by assumption) ?_; k_whole; intro h'w9 e'w9 hx'w9)
  k_with "delItem ref int" => (k_here; refine d_del_miss (by k_asm) (by k_mem) (by assumption) (by assumption) (by assumption) (by assumption) ?_; k_whole; intro h'w9 e'w9 hx'w9)
  k_with "call type:KeyError" => ((with_reducible show wpAny _ _ _ (RaisableN _) _ _); refine call_exc_raiseN excClass_KeyError ?_; intro _ _ _)
  k_with "getAttr ref" => (k_here; (with_reducible show wpAny _ _ (getAttr (Value.ref _) (Str.ofString "__name__") _) _ _ _); refine cls_name (by k_asm) (by k_asm) (by k_is) (by k_is) (by k_is) (by k_is) (by exact rfl) (by k_handed) ?_; k_whole)
  k_with "call type:KeyError" => ((with_reducible show wpAny _ _ _ (RaisableB _ _ _) _ _); rename News _ _ _ _ => kNxw9; refine call_exc_raiseB excClass_KeyError (by exact (kNxw9 _ (.head _)).1) ?_ (by rw [sizeLine_eq]; exact Nat.le_of_ble_eq_true rfl); intro _ _ _)
  k_with "subscriptTail" => (k_here; (with_reducible show wpAny _ _ (subscriptTail _ _ (Value.ref _) (Value.int _ _)) _ _ _); refine d_miss (by k_asm) (by k_mem) (by assumption) (by assumption) (by assumption) (by assumption) ?_; k_whole; intro h'w9 e'w9 hx'w9)
  k_with "subscriptTail" => (k_here; (with_reducible show wpAny _ _ (subscriptTail _ _ (Value.ref _) (Value.int _ _)) _ _ _); first
  | ((with_reducible show wpAny _ _ (subscriptTail _ _ (Value.ref _) (Value.int 0 _)) _ _ _); refine t_item0 (by k_asm) (by (repeat (first | exact List.Mem.head _ | assumption | apply List.Mem.tail | apply List.mem_append_left))) ?_; k_whole)
  | ((with_reducible show wpAny _ _ (subscriptTail _ _ (Value.ref _) (Value.int 1 _)) _ _ _); refine t_item1 (by k_asm) (by (repeat (first | exact List.Mem.head _ | assumption | apply List.Mem.tail | apply List.mem_append_left))) ?_; k_whole))
  k_with "call builtin:sorted" => (k_here; (with_reducible show wpAny _ _ (call (Value.builtin "sorted") [Value.ref _]) _ _ _); refine l_sorted (by k_asm) (by k_asm) (by (repeat (first | exact List.Mem.head _ | assumption | apply List.Mem.tail | apply List.mem_append_left))) (by assumption) (by assumption) ?_; k_whole; intro D'w9 v'w9 c'w9 h'w9 F'w9 N'w9 l1w9 i'w9; (try k_lt l1w9))
  k_with "call builtin:len" => (k_here; (with_reducible show wpAny _ _ (call (Value.builtin "len") [Value.ref _]) _ _ _); refine l_len (by k_asm) (by (repeat (first | exact List.Mem.head _ | assumption | apply List.Mem.tail | apply List.mem_append_left))) (by assumption) (by assumption) ?_; k_whole)
  k_with "subscriptTail" => (k_here; (with_reducible show wpAny _ _ (subscriptTail _ _ (Value.ref _) (Value.int _ _)) _ _ _); (fail_if_success (with_reducible show wpAny _ _ (subscriptTail _ (PySem.Expr.Constant _ _ _) _ _) _ _ _)); refine l_item (by k_asm) (by (repeat (first | exact List.Mem.head _ | assumption | apply List.Mem.tail | apply List.mem_append_left))) (by assumption) (by assumption) (by assumption) (by assumption) ?_; k_whole; intro _)
  k_with "call builtin:sum" => (k_here; (with_reducible show wpAny _ _ (call (Value.builtin "sum") [Value.ref _]) _ _ _); refine sumK (by assumption) (by k_asm) (by k_asm) (by exact l_is (by assumption) (.head _)) (by assumption) ?_; k_whole; intro h'w9 tk'w9 t'w9 F'w9 N'w9)
  k_with "call builtin:len" => (k_here; (with_reducible show wpAny _ _ (call (Value.builtin "len") [Value.ref _]) _ _ _); refine l_lenv (by k_asm) (by (repeat (first | exact List.Mem.head _ | assumption | apply List.Mem.tail | apply List.mem_append_left))) (by assumption) ?_; k_whole)
  trivial
local macro_rules | `(tactic| walk_at $s:str) => `(tactic| k_extra $s)
section
theorem contains_spec {w : World} {c : CL} {o : CO} {st : CS} {k : Int} {t : Tok} (I : CI w c o st) : Spec w 2 86 [.ref c.x, .int k t] c o noPre fun _ _ v o' => v = .bool (kdfHas st.pairs k) ∧ o' = o := by
  intro A s g L m R p loose mean mg mb F N X T hd hu hh hpre hret
  ktr_enter
  intro g' L' h₁ F' N' X' T' hg EE
  obtain ⟨x, dx, ad, az, ai, ak, al⟩ := c
  obtain ⟨es, n, oD, oZ, oI, vs, nk, us, ns⟩ := o
  have od0 : OD ⟨x, dx, ad, az, ai, ak, al⟩ st es := I.od
  obtain ⟨nd, ⟨gD, gZ, gG, ⟨tC, gC⟩, ⟨tM, gM⟩, gF, gI, gK, n1, n2, n3, n4, n5, n6, n7, hes⟩, hD, hZ, hI, hK, lo1, lo2, lo3⟩ := I
  dsimp only [CL.led, CL.adr] at *
  have ⟨⟨x1, x2, x3, x4, x5, x6⟩, ⟨y1, y2, y3, y4, y5⟩, ⟨z1, z2, z3, z4⟩, ⟨w1, w2, w3⟩, ⟨v1, v2⟩, u1⟩ := nd7 nd
  k_steps
  try dsimp only
  rename Fr g' _ _ _ => kF
  rename News g' _ _ _ => kN
  obtain ⟨q1, q2, q3⟩ := backM F N hg kF kN rfl
  exact hret _ _ _ _ ⟨rfl, rfl⟩ q1 q2 q3

theorem getitem_spec {w : World} {c : CL} {o : CO} {st : CS} {k : Int} {t : Tok} (I : CI w c o st) (hk : kdfHas st.pairs k = true) : Spec w 2 65 [.ref c.x, .int k t] c o noPre fun _ _ v o' => (∃ t', v = .int (kdfLook st.pairs k 0) t') ∧ o' = o := by
  intro A s g L m R p loose mean mg mb F N X T hd hu hh hpre hret
  ktr_enter
  intro g' L' h₁ F' N' X' T' hg EE
  obtain ⟨x, dx, ad, az, ai, ak, al⟩ := c
  obtain ⟨es, n, oD, oZ, oI, vs, nk, us, ns⟩ := o
  have od0 : OD ⟨x, dx, ad, az, ai, ak, al⟩ st es := I.od
  obtain ⟨nd, ⟨gD, gZ, gG, ⟨tC, gC⟩, ⟨tM, gM⟩, gF, gI, gK, n1, n2, n3, n4, n5, n6, n7, hes⟩, hD, hZ, hI, hK, lo1, lo2, lo3⟩ := I
  dsimp only [CL.led, CL.adr] at *
  have ⟨⟨x1, x2, x3, x4, x5, x6⟩, ⟨y1, y2, y3, y4, y5⟩, ⟨z1, z2, z3, z4⟩, ⟨w1, w2, w3⟩, ⟨v1, v2⟩, u1⟩ := nd7 nd
  k_steps
  try dsimp only
  rename Fr g' _ _ _ => kF
  rename News g' _ _ _ => kN
  obtain ⟨q1, q2, q3⟩ := backM F N hg kF kN rfl
  exact hret _ _ _ _ ⟨⟨_, rfl⟩, rfl⟩ q1 q2 q3
end
section
theorem cdel_specZ {w : World} {c : CL} {o : CO} {st : CS} {k : Int} {t : Tok} (I : CI w c o st) (hk : kdfHas st.pairs k = true) (hn : (st.pairs.map (·.1)).Nodup) (hc1 : st.pairs.length ≤ 1000) (hs : st.sz = true) :
    Spec w 2 79 [.ref c.x, .int k t] c o noPre fun _ _ v o' => v = .none ∧ CI w c o' { st with pairs := delI st.pairs k } ∧ o'.us = o.us := by
  intro A s g L m R p loose mean mg mb F N X T hd hu hh hpre hret
  ktr_enter
  intro g' L' h₁ F' N' X' T' hg EE
  obtain ⟨x, dx, ad, az, ai, ak, al⟩ := c
  obtain ⟨es, n, oD, oZ, oI, vs, nk, us, ns⟩ := o
  have od0 : OD ⟨x, dx, ad, az, ai, ak, al⟩ st es := I.od
  obtain ⟨nd, ⟨gD, gZ, gG, ⟨tC, gC⟩, ⟨tM, gM⟩, gF, gI, gK, n1, n2, n3, n4, n5, n6, n7, hes⟩, hD, hZ, hI, hK, lo1, lo2, lo3⟩ := I
  dsimp only [CL.led, CL.adr] at *
  have ⟨⟨x1, x2, x3, x4, x5, x6⟩, ⟨y1, y2, y3, y4, y5⟩, ⟨z1, z2, z3, z4⟩, ⟨w1, w2, w3⟩, ⟨v1, v2⟩, u1⟩ := nd7 nd
  rw [hs, if_pos rfl] at gZ
  have hZ' := hZ hs
  have hk' : kdfHas (st.pairs.map fun p => (p.1, sizeOf p.2)) k = true := (has_map _ _ _).trans hk
  have hc2 : (st.pairs.map fun p => (p.1, sizeOf p.2)).length ≤ 1000 := by rw [List.length_map]; exact hc1
  k_steps
  try dsimp only
  rename Fr g' _ _ _ => kF
  rename News g' _ _ _ => kN
  obtain ⟨q1, q2, q3⟩ := backM F N hg kF kN rfl
  refine hret _ _ _ ⟨_, _, _, _, _, _, _, _, _⟩ ⟨rfl, ⟨nd, ?_, ?_, ?_, hI, hK, lo1, lo2, lo3⟩, rfl⟩ q1 q2 q3
  · refine od0.put (by assumption) (by assumption) ?_ rfl rfl rfl
    rw [look_map _ _ _ hk]
    dsimp only
    rw [room_del _ hn hk, if_pos hs]
  · assumption
  · intro _; dsimp only; rw [← del_map]; assumption

theorem cdel_specU {w : World} {c : CL} {o : CO} {st : CS} {k : Int} {t : Tok} (I : CI w c o st) (hk : kdfHas st.pairs k = true) (hn : (st.pairs.map (·.1)).Nodup) (hc1 : st.pairs.length ≤ 1000) (hs : st.sz = false) :
    Spec w 2 79 [.ref c.x, .int k t] c o noPre fun _ _ v o' => v = .none ∧ CI w c o' { st with pairs := delI st.pairs k } ∧ o'.us = o.us := by
  intro A s g L m R p loose mean mg mb F N X T hd hu hh hpre hret
  ktr_enter
  intro g' L' h₁ F' N' X' T' hg EE
  obtain ⟨x, dx, ad, az, ai, ak, al⟩ := c
  obtain ⟨es, n, oD, oZ, oI, vs, nk, us, ns⟩ := o
  have od0 : OD ⟨x, dx, ad, az, ai, ak, al⟩ st es := I.od
  obtain ⟨nd, ⟨gD, gZ, gG, ⟨tC, gC⟩, ⟨tM, gM⟩, gF, gI, gK, n1, n2, n3, n4, n5, n6, n7, hes⟩, hD, hZ, hI, hK, lo1, lo2, lo3⟩ := I
  dsimp only [CL.led, CL.adr] at *
  have ⟨⟨x1, x2, x3, x4, x5, x6⟩, ⟨y1, y2, y3, y4, y5⟩, ⟨z1, z2, z3, z4⟩, ⟨w1, w2, w3⟩, ⟨v1, v2⟩, u1⟩ := nd7 nd
  rw [hs] at gZ
  have gZ' : getL "_Cache__size" es = some none := gZ
  k_steps
  try dsimp only
  rename Fr g' _ _ _ => kF
  rename News g' _ _ _ => kN
  obtain ⟨q1, q2, q3⟩ := backM F N hg kF kN rfl
  refine hret _ _ _ ⟨_, _, _, _, _, _, _, _, _⟩ ⟨rfl, ⟨nd, ?_, ?_, ?_, hI, hK, lo1, lo2, lo3⟩, rfl⟩ q1 q2 q3
  · refine od0.put (by assumption) (by assumption) ?_ rfl rfl rfl
    dsimp only
    rw [room_del _ hn hk, hs, if_neg (by decide)]
  · assumption
  · intro h; rw [hs] at h; cases h
end
section
theorem cdel_spec {w : World} {c : CL} {o : CO} {st : CS} {k : Int} {t : Tok} (I : CI w c o st) (hk : kdfHas st.pairs k = true) (hn : (st.pairs.map (·.1)).Nodup) (hc1 : st.pairs.length ≤ 1000) :
    Spec w 2 79 [.ref c.x, .int k t] c o noPre fun _ _ v o' => v = .none ∧ CI w c o' { st with pairs := delI st.pairs k } ∧ o'.us = o.us := by
  by_cases hs : st.sz = true
  · exact cdel_specZ I hk hn hc1 hs
  · exact cdel_specU I hk hn hc1 (Bool.eq_false_iff.mpr hs)

theorem rdel_spec {w : World} {c : CL} {o : CO} {st : CS} {k : Int} {t : Tok} (I : CI w c o st) (hk : kdfHas st.pairs k = true) (hc1 : st.pairs.length ≤ 1000) (W : WfK (st.pairs.map (·.1)) st.ks st.ix) :
    Spec w 4 208 [.ref c.x, .int k t] c o noPre fun _ _ v o' => v = .none ∧ CI w c o' { st with pairs := delI st.pairs k, ks := delK st.ks (kdfLook st.ix k 0).toNat, ix := delX st.ks st.ix k } ∧ o'.us = o.us := by
  have hkn : k ∈ st.pairs.map (·.1) := has_iff.mp hk
  have hkk : k ∈ st.ks := W.perm.mem_iff.mpr hkn
  have hx : kdfHas st.ix k = true := (W.has k).mpr hkk
  have hx0 := (W.at_ k hkk).1
  have hx1 := W.lt hkk
  have hxl : kdfLook st.ix k 0 < st.ks.length := by omega
  have hl1 : st.ks.length = st.pairs.length := by rw [W.perm.length_eq, List.length_map]
  have hl2 : st.ix.length ≤ 1000 := by rw [W.ixlen]; omega
  have hl3 : st.ks.length ≤ 1000 := by omega
  have hl4 : 0 < st.ks.length := by omega
  have hl6 : st.pairs.length ≤ 1000 := hc1
  have hl5 : (delI st.ix k).length ≤ 1000 := Nat.le_trans (List.length_filter_le _ _) hl2
  intro A s g L m R p loose mean mg mb F N X T hd hu hh hpre hret
  ktr_enter
  intro g' L' h₁ F' N' X' T' hg EE
  have I0 := I
  obtain ⟨x, dx, ad, az, ai, ak, al⟩ := c
  obtain ⟨es, n, oD, oZ, oI, vs, nk, us, ns⟩ := o
  have od0 : OD ⟨x, dx, ad, az, ai, ak, al⟩ st es := I.od
  obtain ⟨nd, ⟨gD, gZ, gG, ⟨tC, gC⟩, ⟨tM, gM⟩, gF, gI, gK, n1, n2, n3, n4, n5, n6, n7, hes⟩, hD, hZ, hI, hK, lo1, lo2, lo3⟩ := I
  dsimp only [CL.led, CL.adr] at *
  have ⟨⟨x1, x2, x3, x4, x5, x6⟩, ⟨y1, y2, y3, y4, y5⟩, ⟨z1, z2, z3, z4⟩, ⟨w1, w2, w3⟩, ⟨v1, v2⟩, u1⟩ := nd7 nd
  k_steps
  refine (cdel_spec I0 hk W.nd hc1).use (by assumption) (by assumption) (by assumption) (by assumption) (by first | exact roomD hd rfl | (simp only [depth_deeper]; omega)) (by first | exact roomU hu rfl | (simp only [units_deeper]; omega)) hh trivial ?_
  intro h2 tk2 v2 o2 hPq F2 N2 M2
  obtain ⟨rfl, I2, hus⟩ := hPq
  obtain ⟨es2, n2, oD2, oZ2, oI2, vs2, nk2, us2, ns2⟩ := o2
  have I3 := I2
  have od2 : OD ⟨x, dx, ad, az, ai, ak, al⟩ _ es2 := I2.od
  obtain ⟨_, ⟨gD2, gZ2, gG2, ⟨tC2, gC2⟩, ⟨tM2, gM2⟩, gF2, gI2, gK2, p1, p2, p3, p4, p5, p6, p7, hes2⟩, hD2, hZ2, hI2, hK2, _, _, _⟩ := I2
  dsimp only [CL.led, CL.adr, List.cons_append, List.nil_append] at *
  k_steps
  ·
    try dsimp only
    rename Fr g' _ _ _ => kF
    rename News g' _ _ _ => kN
    obtain ⟨q1, q2, q3⟩ := backM F N hg kF kN rfl
    refine hret _ _ _ ⟨_, _, _, _, _, _, _, _, _⟩ ⟨rfl, ⟨nd, od2.cong rfl rfl rfl rfl, hD2, hZ2, ?_, ?_, lo1, lo2, lo3⟩, hus⟩ q1 q2 q3
    · dsimp only; rw [delX_ne (by assumption)]; assumption
    · dsimp only; unfold delK; rename IntsAre _ _ => i1; simp only [List.length_set] at i1 ⊢; exact i1
  ·
    try dsimp only
    rename Fr g' _ _ _ => kF
    rename News g' _ _ _ => kN
    obtain ⟨q1, q2, q3⟩ := backM F N hg kF kN rfl
    refine hret _ _ _ ⟨_, _, _, _, _, _, _, _, _⟩ ⟨rfl, ⟨nd, od2.cong rfl rfl rfl rfl, hD2, hZ2, ?_, ?_, lo1, lo2, lo3⟩, hus⟩ q1 q2 q3
    · dsimp only; rw [delX_eq (by assumption)]; assumption
    · dsimp only; rw [delK_last (by assumption)]; assumption
end
section
theorem size_spec {w : World} {v : Int} {t : Tok} : PSpec w 2 234 [.int v t] noPre fun _ _ x => ∃ t', x = .int (sizeOf v) t' := by
  intro A s g L m R p loose mean mg mb F X T hd hu hh hpre hret
  refine' enterP ?k1 ?k3 ?k4 ?k6 ?k7 ?k8 ?k9 ?kB ?_ ?c2 ?c3 ?c4 ?c5; (case k1 => assumption); (case k3 => assumption); (case k4 => assumption); (case k6 => k_is); (case k7 => k_is); (case k8 => first | exact roomA hd | ((try simp only [depth_deeper, depth_in1] at *); omega)); (case k9 => first | exact BindsTo.of_eq rfl | exact binds_K (by k_in) rfl (by k_is) rfl rfl rfl); (case kB => exact locs rfl); (case c2 => exact rfl); (case c3 => exact rfl); (case c4 => exact rfl); (case c5 => decide); k_whole
  intro g' L' h₁ F' N' X' T' hg EE
  k_steps
  try dsimp only
  rename Fr g' _ _ _ => kF
  rename News g' _ _ _ => kN
  subst hg
  obtain ⟨q1, q2⟩ := backP F kF
  have e : v.fmod 5 - 1 = sizeOf v := by unfold sizeOf; rw [Int.fmod_eq_emod_of_nonneg v (b := 5) (by decide)]
  exact hret _ _ _ ⟨_, congrArg (fun z => Value.int z _) e⟩ q1 q2
end
section
inductive PopP (w : World) (c : CL) (o : CO) (st : CS) (nums : List Int) (h h' : Heap) (v : Value) (o' : CO) : Prop
  | mk (tup : Addr) (t1 t2 : Tok) (n : Nat) (a : Addr) (ev : v = .ref tup) (h0 : h.get? tup = none)
    (h1 : h'.get? tup = some { cls := .type "tuple", data := .seq [Value.int (picked st.ks nums o.us.length) t1, .int (kdfLook st.pairs (picked st.ks nums o.us.length) 0) t2].toArray n })
    (I : CI w c o' { st with pairs := delI st.pairs (picked st.ks nums o.us.length), ks := delK st.ks (kdfLook st.ix (picked st.ks nums o.us.length) 0).toNat, ix := delX st.ks st.ix (picked st.ks nums o.us.length) })
    (hu : o'.us = o.us ++ [.ref a]) (ha : h.get? a = none) (hi : IntL h' a (sortI st.ks))
theorem popitem_spec {w : World} {c : CL} {o : CO} {st : CS} {nums : List Int} {Ch : Heap → Prop} (I : CI w c o st) (W : WfK (st.pairs.map (·.1)) st.ks st.ix) (hne : st.pairs ≠ []) (hc5 : st.pairs.length ≤ 5) (H : ChS w c st.fch nums Ch) (hul : o.us.length ≤ 500) :
    Spec w 30 215 [.ref c.x] c o Ch (PopP w c o st nums) := by
  have hl1 : st.ks.length = st.pairs.length := by rw [W.kslen, List.length_map]
  have hkne : st.ks ≠ [] := fun e => hne (List.eq_nil_of_length_eq_zero (by rw [← hl1, e]; rfl))
  have hl3 : st.ks.length ≤ 1000 := by omega
  have hl4 : 0 < st.ks.length := List.length_pos_iff.mpr hkne
  have hpm : picked st.ks nums o.us.length ∈ st.ks := picked_mem hkne
  have hpk : kdfHas st.pairs (picked st.ks nums o.us.length) = true := has_iff.mpr (W.perm.mem_iff.mp hpm)
  intro A s g L m R p loose mean mg mb F N X T hd hu hh hpre hret
  ktr_enter
  intro g' L' h₁ F' N' X' T' hg EE
  have I0 := I
  have hCh : ChP g' L' Ch := H.inner hpre (by rw [led_adr] at hg; exact hg)
  have hFn : FnS g' L' st.fch := H.fns hCh
  obtain ⟨x, dx, ad, az, ai, ak, al⟩ := c
  obtain ⟨es, n, oD, oZ, oI, vs, nk, us, ns⟩ := o
  have od0 : OD ⟨x, dx, ad, az, ai, ak, al⟩ st es := I.od
  obtain ⟨nd, ⟨gD, gZ, gG, ⟨tC, gC⟩, ⟨tM, gM⟩, gF, gI, gK, n1, n2, n3, n4, n5, n6, n7, hes⟩, hD, hZ, hI, hK, lo1, lo2, lo3⟩ := I
  dsimp only [CL.led, CL.adr] at *
  have ⟨⟨x1, x2, x3, x4, x5, x6⟩, ⟨y1, y2, y3, y4, y5⟩, ⟨z1, z2, z3, z4⟩, ⟨w1, w2, w3⟩, ⟨v1, v2⟩, u1⟩ := nd7 nd
  k_steps
  refine (H.call _ _ I0 rfl hkne (by omega) hul).useX (r := []) (by assumption) (by assumption) (by assumption) (by assumption) (by first | exact roomD hd rfl | (simp only [depth_deeper]; omega)) (by first | exact roomU hu rfl | (simp only [units_deeper]; omega)) hh (hCh _ _ (by assumption)) (fun _ hp => nomatch hp) ?_
  intro h2 tk2 v2 o2 hPq F2 N2 M2 G2
  obtain ⟨⟨t2, rfl⟩, I2, a2, hus, ha2, ⟨va, na, ea, ia⟩⟩ := hPq
  replace N2 := news_more N2 (G2 _ ha2).1 ea
  have hna := off1 (o := listOf va.toArray na) (G2 _ ha2).2
  have I20 := I2
  obtain ⟨es2, n2, oD2, oZ2, oI2, vs2, nk2, us2, ns2⟩ := o2
  have I3 := I2
  have od2 : OD ⟨x, dx, ad, az, ai, ak, al⟩ _ es2 := I2.od
  obtain ⟨_, ⟨gD2, gZ2, gG2, ⟨tC2, gC2⟩, ⟨tM2, gM2⟩, gF2, gI2, gK2, p1, p2, p3, p4, p5, p6, p7, hes2⟩, hD2, hZ2, hI2, hK2, _, _, _⟩ := I2
  dsimp only [CL.led, CL.adr, List.cons_append, List.nil_append] at *
  k_steps
  refine (getitem_spec I20 hpk).useX (by assumption) (by assumption) (by assumption) (by assumption) (by first | exact roomD hd rfl | (simp only [depth_deeper]; omega)) (by first | exact roomU hu rfl | (simp only [units_deeper]; omega)) hh trivial hna ?_
  intro h3 tk3 v3 o3 hPq F3 N3 M3 G3
  obtain ⟨⟨t3, rfl⟩, rfl⟩ := hPq
  dsimp only [CL.led, CL.adr, List.cons_append, List.nil_append] at N3
  k_steps
  refine (rdel_spec I20 hpk (by omega) W).useX (by assumption) (by assumption) (by assumption) (by assumption) (by first | exact roomD hd rfl | (simp only [depth_deeper]; omega)) (by first | exact roomU hu rfl | (simp only [units_deeper]; omega)) hh trivial hna ?_
  intro h2 tk2 v2 o2 hPq F2 N2 M4 G4
  obtain ⟨rfl, I2, hus2⟩ := hPq
  obtain ⟨es2, n2, oD2, oZ2, oI2, vs2, nk2, us2, ns2⟩ := o2
  have I3 := I2
  have od2 : OD ⟨x, dx, ad, az, ai, ak, al⟩ _ es2 := I2.od
  obtain ⟨_, ⟨gD2, gZ2, gG2, ⟨tC2, gC2⟩, ⟨tM2, gM2⟩, gF2, gI2, gK2, p1, p2, p3, p4, p5, p6, p7, hes2⟩, hD2, hZ2, hI2, hK2, _, _, _⟩ := I2
  dsimp only [CL.led, CL.adr, List.cons_append, List.nil_append] at *
  k_steps
  try dsimp only
  rename Fr g' _ _ _ => kF
  rename News g' _ _ _ => kN
  obtain ⟨q1, q2, q3⟩ := backM F N hg kF (news17 kN) rfl
  rename _ < _ ∧ _ < _ ∧ _ => ll
  obtain ⟨l1, l2, l3, l4, l5, l6, l7, l8⟩ := ll
  have h8 := hna _ (.head _)
  refine hret _ _ _ ⟨_, _, _, _, _, _, _, _, _⟩ ⟨_, _, _, _, a2, rfl, fresh_of hg kN (.head _) ?_, (kN _ (.head _)).1, ⟨nd, od2, hD2, hZ2, hI2, hK2, lo1, lo2, lo3⟩, ?_, fresh_of hg kN (by k_mem) h8, ⟨va, na, (kN (a2, listOf va.toArray na) (by k_mem)).1, ia⟩⟩ q1 q2 q3
  · exact off7 ⟨l1, l2, l3, l4, l5, l6, l7⟩
  · exact hus2.trans hus
end
section
/-- what storing does, room made first -/
inductive SetP (w : World) (c : CL) (nums : List Int) (st : CS) (key v : Int) (sh₀ : List (List Int)) (us₀ : List Value) (h h' : Heap) (o' : CO) (add : CS → CS) : Prop
  | mk (st' : CS) (r : List (Addr × Obj)) (sh : List (List Int)) (ev : evict st.sz st.room nums key (if st.sz then sizeOf v else 1) st.pairs.length st.pairs sh₀ = (st'.pairs, sh₀ ++ sh)) (W : WfK (st'.pairs.map (·.1)) st'.ks st'.ix)
    (e1 : st'.sz = st.sz) (e2 : st'.room = st.room) (e3 : st'.fch = st.fch) (I : CI w c o' (add st')) (hu : o'.us = us₀ ++ refsOf r) (S : SeenR r sh) (hr : ∀ p ∈ r, h.get? p.1 = none ∧ h'.get? p.1 = some p.2) (hl : st'.pairs.length ≤ st.pairs.length)
theorem cset_specU {w : World} {c : CL} {o : CO} {st : CS} {nums : List Int} {Ch : Heap → Prop} {k v : Int} {t tv : Tok} {sh₀ : List (List Int)} (I : CI w c o st) (W : WfK (st.pairs.map (·.1)) st.ks st.ix) (hc5 : st.pairs.length ≤ 5) (H : ChS w c st.fch nums Ch)
    (hul : o.us.length + st.pairs.length ≤ 500) (h0 : sh₀.length = o.us.length) (hr : roomOf st.sz st.pairs ≤ st.room) (hs : st.sz = false) (h1 : 1 ≤ st.room) :
    Spec w 40 72 [.ref c.x, .int k t, .int v tv] c o Ch fun h h' x o' => x = .none ∧ SetP w c nums st k v sh₀ o.us h h' o' fun st' => { st' with pairs := kdfPut st'.pairs k v } := by
  intro A s g L m R p loose mean mg mb F N X T hd hu hh hpre hret
  ktr_enter
  intro g' L' h₁ F' N' X' T' hg EE
  have I0 := I
  have hCh : ChP g' L' Ch := H.inner hpre (by rw [led_adr] at hg; exact hg)
  have hFn : FnS g' L' st.fch := H.fns hCh
  obtain ⟨x, dx, ad, az, ai, ak, al⟩ := c
  obtain ⟨es, n, oD, oZ, oI, vs, nk, us, ns⟩ := o
  have od0 : OD ⟨x, dx, ad, az, ai, ak, al⟩ st es := I.od
  obtain ⟨nd, ⟨gD, gZ, gG, ⟨tC, gC⟩, ⟨tM, gM⟩, gF, gI, gK, n1, n2, n3, n4, n5, n6, n7, hes⟩, hD, hZ, hI, hK, lo1, lo2, lo3⟩ := I
  dsimp only [CL.led, CL.adr] at *
  have ⟨⟨x1, x2, x3, x4, x5, x6⟩, ⟨y1, y2, y3, y4, y5⟩, ⟨z1, z2, z3, z4⟩, ⟨w1, w2, w3⟩, ⟨v1, v2⟩, u1⟩ := nd7 nd
  rw [hs] at gZ
  have gZ' : getL "_Cache__size" es = some none := gZ
  refine wpAny_mono (E := fun _ _ => False) ?_ (fun _ _ h => h) (fun _ _ h => h.elim)
  have hc1 : st.pairs.length ≤ 1000 := by omega
  k_steps
  ·
    try dsimp only
    rename Fr g' _ _ _ => kF
    rename News g' _ _ _ => kN
    obtain ⟨q1, q2, q3⟩ := backM F N hg kF kN rfl
    rename kdfHas st.pairs k = true => hk
    have e1 := room_put_in st.sz (v := v) W.nd hk
    have e2 := room_del st.sz W.nd hk
    rw [hs, if_neg (by decide)] at e1 e2
    refine hret _ _ _ ⟨_, _, _, _, _, _, _, _, _⟩ ⟨rfl, st, [], [], ?_, W, rfl, rfl, rfl, ⟨nd, ?_, ?_, ?_, hI, hK, lo1, lo2, lo3⟩, ?_, .nil, (fun p hp => nomatch hp), Nat.le_refl _⟩ q1 q2 q3
    · rw [List.append_nil, hs, if_neg (by decide), evict_stop]
      rw [hs] at hr; omega
    · refine od0.cong' rfl rfl rfl ?_
      dsimp only; rw [hs]; omega
    · assumption
    · intro h; rw [hs] at h; cases h
    · simp [refsOf]
  ·
    rename Fr g' _ _ _ => kF
    rename News g' _ _ _ => kN
    refine ev_loop0 (nums := nums) (key := k) (sh₀ := sh₀) 1 kF kN (EvI.start I0 W) ?_
    intro n h₁ tk₁ o2 st2 r sh F₁ N₁ J
    have I2 := J.ci
    have I20 := I2
    obtain ⟨es2, n2, oD2, oZ2, oI2, vs2, nk2, us2, ns2⟩ := o2
    have I3 := I2
    have od2 : OD ⟨x, dx, ad, az, ai, ak, al⟩ _ es2 := I2.od
    obtain ⟨_, ⟨gD2, gZ2, gG2, ⟨tC2, gC2⟩, ⟨tM2, gM2⟩, gF2, gI2, gK2, p1, p2, p3, p4, p5, p6, p7, hes2⟩, hD2, hZ2, hI2, hK2, _, _, _⟩ := I2
    dsimp only [CL.led, CL.adr, List.cons_append, List.nil_append] at *
    have hoff : kdfHas st2.pairs k = false := by
      cases q : kdfHas st2.pairs k with
      | false => rfl
      | true => have q2 := J.sub k q; rename kdfHas st.pairs k = false => q3; rw [q3] at q2; cases q2
    have hb := J.bound
    have hor : OwnOff r [x, dx, ad, az, ai, ak, al] := fun p hp b hb e => J.off p hp (e ▸ hb)
    have hsz2 : st2.sz = false := J.sz.trans hs
    have hus : us2 = us ++ refsOf r := J.us
    have husl : us2.length = us.length + sh.length := by rw [hus, List.length_append]; unfold refsOf; rw [List.length_map, J.seen.length]
    have hc2 : st2.pairs.length ≤ 1000 := by omega
    k_steps
    refine whl_split (fun hP => ?_) fun hP => ?_
    ·
      have hcond : roomOf st.sz (delI st2.pairs k) + 1 > st.room := by rw [del_off hoff, ← J.sz]; omega
      k_steps
      refine (popitem_spec I20 J.wf (J.ne h1 hcond) (by omega) (J.fch ▸ H) (by dsimp only; omega)).useX (r := r) (by assumption) (by assumption) (by assumption) (by assumption) (by first | exact roomD hd rfl | (simp only [depth_deeper]; omega)) (by first | exact roomU hu rfl | (simp only [units_deeper]; omega)) hh (hCh _ _ (by assumption)) J.off ?_
      intro h3 tk3 v3 o3 hPq F3 N3 M3 G3
      obtain ⟨tup, t1, t2, nt, a, rfl, ht0, ht1, C3, hu3, ha, ⟨va, na, ea, ia⟩⟩ := hPq
      have N4 := news_more N3 (G3 a ha).1 ea
      have J3 := J.step (na := na) h0 h1 hcond C3 hu3 (G3 a ha).2 ia
      k_steps
      exact ⟨rfl, _, _, _, _, _, _, _, 0, rfl, F3, (List.append_assoc _ _ _ ▸ N4), J3.1, J3.2⟩
    ·
      k_steps
      try dsimp only
      rename Fr g' _ _ _ => kF
      rename News g' _ _ _ => kN
      obtain ⟨q1, q2, q3⟩ := backM F N hg kF (news7 kN) rfl
      have hnc : ¬ roomOf st.sz (delI st2.pairs k) + 1 > st.room := by rw [del_off hoff, ← J.sz]; omega
      refine hret _ _ _ ⟨_, _, _, _, _, _, _, _, _⟩ ⟨rfl, st2, r, sh, ?_, J.wf, J.sz, J.room, J.fch, ⟨nd, ?_, ?_, ?_, hI2, hK2, lo1, lo2, lo3⟩, hus, J.seen, fun p hp => ⟨fresh_g hg (news7r kN p hp).2 (J.off p hp), (news7r kN p hp).1⟩, by omega⟩ q1 q2 q3
      · rw [hs, if_neg (by decide), ← hs, J.ev, evict_stop hnc]
      · refine od2.put (by assumption) (by assumption) ?_ rfl rfl rfl
        dsimp only
        rw [room_put_off _ hoff, hsz2, if_neg (by decide)]
      · assumption
      · intro h; rw [hsz2] at h; cases h
end
section
theorem cset_specZ {w : World} {c : CL} {o : CO} {st : CS} {nums : List Int} {Ch : Heap → Prop} {k v : Int} {t tv : Tok} {sh₀ : List (List Int)} (I : CI w c o st) (W : WfK (st.pairs.map (·.1)) st.ks st.ix) (hc5 : st.pairs.length ≤ 5) (H : ChS w c st.fch nums Ch)
    (hul : o.us.length + st.pairs.length ≤ 500) (h0 : sh₀.length = o.us.length) (hr : roomOf st.sz st.pairs ≤ st.room) (hs : st.sz = true) (hv0 : 0 ≤ sizeOf v) (h1 : sizeOf v ≤ st.room) :
    Spec w 40 72 [.ref c.x, .int k t, .int v tv] c o Ch fun h h' x o' => x = .none ∧ SetP w c nums st k v sh₀ o.us h h' o' fun st' => { st' with pairs := kdfPut st'.pairs k v } := by
  intro A s g L m R p loose mean mg mb F N X T hd hu hh hpre hret
  ktr_enter
  intro g' L' h₁ F' N' X' T' hg EE
  have I0 := I
  have hCh : ChP g' L' Ch := H.inner hpre (by rw [led_adr] at hg; exact hg)
  have hFn : FnS g' L' st.fch := H.fns hCh
  obtain ⟨x, dx, ad, az, ai, ak, al⟩ := c
  obtain ⟨es, n, oD, oZ, oI, vs, nk, us, ns⟩ := o
  have od0 : OD ⟨x, dx, ad, az, ai, ak, al⟩ st es := I.od
  obtain ⟨nd, ⟨gD, gZ, gG, ⟨tC, gC⟩, ⟨tM, gM⟩, gF, gI, gK, n1, n2, n3, n4, n5, n6, n7, hes⟩, hD, hZ, hI, hK, lo1, lo2, lo3⟩ := I
  dsimp only [CL.led, CL.adr] at *
  have ⟨⟨x1, x2, x3, x4, x5, x6⟩, ⟨y1, y2, y3, y4, y5⟩, ⟨z1, z2, z3, z4⟩, ⟨w1, w2, w3⟩, ⟨v1, v2⟩, u1⟩ := nd7 nd
  rw [hs, if_pos rfl] at gZ gG
  have hZ' := hZ hs
  refine wpAny_mono (E := fun _ _ => False) ?_ (fun _ _ h => h) (fun _ _ h => h.elim)
  have hc1 : st.pairs.length ≤ 1000 := by omega
  k_steps
  refine (size_spec).use (by assumption) (by assumption) (by assumption) (by assumption) (by first | exact roomD hd rfl | (simp only [depth_deeper]; omega)) (by first | exact roomU hu rfl | (simp only [units_deeper]; omega)) hh trivial ?_
  intro h2 tk2 v2 hPq F2 N2 M2 G2
  obtain ⟨ts, rfl⟩ := hPq
  k_steps
  ·
    rename kdfHas st.pairs k = true => hk
    have hk' := (has_map sizeOf k st.pairs).trans hk
    k_steps
    rename Fr g' _ _ _ => kF
    rename News g' _ _ _ => kN
    have e1 : sizeOf v - kdfLook (st.pairs.map fun p => (p.1, sizeOf p.2)) k 0 = diffOf k v st.pairs := by unfold diffOf; rw [if_pos hk, look_map _ _ _ hk]
    rw [e1] at kF
    refine ev_loopD (nums := nums) (key := k) (sh₀ := sh₀) (diffOf k v) (sizeOf v) kF kN (EvI.start I0 W) ?_
    intro n h₁ tk₁ o2 st2 r sh td F₁ N₁ J
    have I2 := J.ci
    have I20 := I2
    have hsz2 : st2.sz = true := J.sz.trans hs
    obtain ⟨es2, n2, oD2, oZ2, oI2, vs2, nk2, us2, ns2⟩ := o2
    have I3 := I2
    have od2 : OD ⟨x, dx, ad, az, ai, ak, al⟩ _ es2 := I2.od
    obtain ⟨_, ⟨gD2, gZ2, gG2, ⟨tC2, gC2⟩, ⟨tM2, gM2⟩, gF2, gI2, gK2, p1, p2, p3, p4, p5, p6, p7, hes2⟩, hD2, hZ2, hI2, hK2, _, _, _⟩ := I2
    dsimp only [CL.led, CL.adr, List.cons_append, List.nil_append] at *
    have hb := J.bound
    have hor : OwnOff r [x, dx, ad, az, ai, ak, al] := own_of J.off
    have hus : us2 = us ++ refsOf r := J.us
    have husl : us2.length = us.length + sh.length := hus_of J
    have hc2 : st2.pairs.length ≤ 1000 := by omega
    rw [hsz2, if_pos rfl] at gZ2
    have hZ3 := hZ2 hsz2
    have hc3 : (st2.pairs.map fun p => (p.1, sizeOf p.2)).length ≤ 1000 := by rw [List.length_map]; exact hc2
    have edr := diff_room (k := k) (v := v) J.wf.nd
    k_steps
    refine whl_split (fun hP => ?_) fun hP => ?_
    ·
      have hcond : roomOf st.sz (delI st2.pairs k) + sizeOf v > st.room := by rw [hs]; rw [hsz2] at hP; omega
      k_steps
      refine (popitem_spec I20 J.wf (J.ne h1 hcond) (by omega) (J.fch ▸ H) (by dsimp only; omega)).useX (r := r) (by assumption) (by assumption) (by assumption) (by assumption) (by first | exact roomD hd rfl | (simp only [depth_deeper]; omega)) (by first | exact roomU hu rfl | (simp only [units_deeper]; omega)) hh (hCh _ _ (by assumption)) J.off ?_
      intro h3 tk3 v3 o2 hPq F3 N3 M3 G3
      obtain ⟨tup, t1, t2, nt, a, rfl, ht0, ht1, I2, hu3, ha, ⟨va, na, ea, ia⟩⟩ := hPq
      have N4 := news_more N3 (G3 a ha).1 ea
      clear N3
      have J3 := J.step (na := na) h0 h1 hcond I2 hu3 (G3 a ha).2 ia
      have I30 := I2
      have hor2 : OwnOff (r ++ [(a, listOf va.toArray na)]) [x, dx, ad, az, ai, ak, al] := own_of J3.1.off
      obtain ⟨es2, n2, oD2, oZ2, oI2, vs2, nk2, us2, ns2⟩ := o2
      have I3 := I2
      have od2 : OD ⟨x, dx, ad, az, ai, ak, al⟩ _ es2 := I2.od
      obtain ⟨_, ⟨gD2, gZ2, gG2, ⟨tC2, gC2⟩, ⟨tM2, gM2⟩, gF2, gI2, gK2, p1, p2, p3, p4, p5, p6, p7, hes2⟩, hD2, hZ2, hI2, hK2, _, _, _⟩ := I2
      dsimp only [CL.led, CL.adr, List.cons_append, List.nil_append] at *
      k_steps
      ·
        rename kdfHas (delI st2.pairs _) k = true => hk2
        have e2 := diff_del (v := v) hk2
        rename Fr g' _ _ _ => kF
        rename News g' _ _ _ => kN
        rw [← e2] at kF
        exact ⟨rfl, _, _, _, _, _, _, _, td, rfl, kF, kN, J3.1, J3.2⟩
      ·
        rename kdfHas (delI st2.pairs _) k = false => hk2
        have e2 := diff_off (v := v) hk2
        rename Fr g' _ _ _ => kF
        rename News g' _ _ _ => kN
        refine ⟨rfl, _, _, _, _, _, _, _, ts, rfl, fr_cong kF ?_, kN, J3.1, J3.2⟩
        intro y
        dsimp only
        rw [e2]
        by_cases hy : y = Str.ofString "diffsize"
        · rw [if_pos hy, if_pos hy]
        · simp only [if_neg hy]
    ·
      k_steps
      try dsimp only
      rename Fr g' _ _ _ => kF
      rename News g' _ _ _ => kN
      obtain ⟨q1, q2, q3⟩ := backM F N hg kF (news7 kN) rfl
      have hnc : ¬ roomOf st.sz (delI st2.pairs k) + sizeOf v > st.room := by rw [hs]; rw [hsz2] at hP; omega
      refine hret _ _ _ ⟨_, _, _, _, _, _, _, _, _⟩ ⟨rfl, st2, r, sh, ?_, J.wf, J.sz, J.room, J.fch, ⟨nd, ?_, ?_, ?_, hI2, hK2, lo1, lo2, lo3⟩, hus, J.seen, fun p hp => ⟨fresh_g hg (news7r kN p hp).2 (J.off p hp), (news7r kN p hp).1⟩, by omega⟩ q1 q2 q3
      · rw [hs, if_pos rfl, ← hs, J.ev, evict_stop hnc]
      · refine od2.put (by assumption) (by assumption) ?_ rfl rfl rfl
        dsimp only
        rw [hsz2, diff_put J.wf.nd]
      · assumption
      · intro _; dsimp only; rw [← put_map]; assumption
  ·
    rename kdfHas st.pairs k = false => hk
    rename Fr g' _ _ _ => kF
    rename News g' _ _ _ => kN
    refine ev_loop0 (nums := nums) (key := k) (sh₀ := sh₀) (sizeOf v) kF kN (EvI.start I0 W) ?_
    intro n h₁ tk₁ o2 st2 r sh F₁ N₁ J
    have I2 := J.ci
    have I20 := I2
    have hsz2 : st2.sz = true := J.sz.trans hs
    obtain ⟨es2, n2, oD2, oZ2, oI2, vs2, nk2, us2, ns2⟩ := o2
    have I3 := I2
    have od2 : OD ⟨x, dx, ad, az, ai, ak, al⟩ _ es2 := I2.od
    obtain ⟨_, ⟨gD2, gZ2, gG2, ⟨tC2, gC2⟩, ⟨tM2, gM2⟩, gF2, gI2, gK2, p1, p2, p3, p4, p5, p6, p7, hes2⟩, hD2, hZ2, hI2, hK2, _, _, _⟩ := I2
    dsimp only [CL.led, CL.adr, List.cons_append, List.nil_append] at *
    have hb := J.bound
    have hor : OwnOff r [x, dx, ad, az, ai, ak, al] := own_of J.off
    have hus : us2 = us ++ refsOf r := J.us
    have husl : us2.length = us.length + sh.length := hus_of J
    have hc2 : st2.pairs.length ≤ 1000 := by omega
    rw [hsz2, if_pos rfl] at gZ2
    have hZ3 := hZ2 hsz2
    have hc3 : (st2.pairs.map fun p => (p.1, sizeOf p.2)).length ≤ 1000 := by rw [List.length_map]; exact hc2
    have hoff := J.hoff hk
    have edr := del_off hoff
    k_steps
    refine whl_split (fun hP => ?_) fun hP => ?_
    ·
      have hcond : roomOf st.sz (delI st2.pairs k) + sizeOf v > st.room := by rw [edr, hs]; rw [hsz2] at hP; omega
      k_steps
      refine (popitem_spec I20 J.wf (J.ne h1 hcond) (by omega) (J.fch ▸ H) (by dsimp only; omega)).useX (r := r) (by assumption) (by assumption) (by assumption) (by assumption) (by first | exact roomD hd rfl | (simp only [depth_deeper]; omega)) (by first | exact roomU hu rfl | (simp only [units_deeper]; omega)) hh (hCh _ _ (by assumption)) J.off ?_
      intro h3 tk3 v3 o3 hPq F3 N3 M3 G3
      obtain ⟨tup, t1, t2, nt, a, rfl, ht0, ht1, C3, hu3, ha, ⟨va, na, ea, ia⟩⟩ := hPq
      have N4 := news_more N3 (G3 a ha).1 ea
      have J3 := J.step (na := na) h0 h1 hcond C3 hu3 (G3 a ha).2 ia
      k_steps
      exact ⟨rfl, _, _, _, _, _, _, _, 0, rfl, F3, (List.append_assoc _ _ _ ▸ N4), J3.1, J3.2⟩
    ·
      k_steps
      try dsimp only
      rename Fr g' _ _ _ => kF
      rename News g' _ _ _ => kN
      obtain ⟨q1, q2, q3⟩ := backM F N hg kF (news7 kN) rfl
      have hnc : ¬ roomOf st.sz (delI st2.pairs k) + sizeOf v > st.room := by rw [edr, hs]; rw [hsz2] at hP; omega
      refine hret _ _ _ ⟨_, _, _, _, _, _, _, _, _⟩ ⟨rfl, st2, r, sh, ?_, J.wf, J.sz, J.room, J.fch, ⟨nd, ?_, ?_, ?_, hI2, hK2, lo1, lo2, lo3⟩, hus, J.seen, fun p hp => ⟨fresh_g hg (news7r kN p hp).2 (J.off p hp), (news7r kN p hp).1⟩, by omega⟩ q1 q2 q3
      · rw [hs, if_pos rfl, ← hs, J.ev, evict_stop hnc]
      · refine od2.put (by assumption) (by assumption) ?_ rfl rfl rfl
        dsimp only
        rw [hsz2, diff_put J.wf.nd, diff_off hoff]
      · assumption
      · intro _; dsimp only; rw [← put_map]; assumption
end
section
theorem cset_spec {w : World} {c : CL} {o : CO} {st : CS} {nums : List Int} {Ch : Heap → Prop} {k v : Int} {t tv : Tok} {sh₀ : List (List Int)} (I : CI w c o st) (W : WfK (st.pairs.map (·.1)) st.ks st.ix) (hc5 : st.pairs.length ≤ 5) (H : ChS w c st.fch nums Ch)
    (hul : o.us.length + st.pairs.length ≤ 500) (h0 : sh₀.length = o.us.length) (hr : roomOf st.sz st.pairs ≤ st.room) (hv0 : 0 ≤ (if st.sz then sizeOf v else 1)) (h1 : (if st.sz then sizeOf v else 1) ≤ st.room) :
    Spec w 40 72 [.ref c.x, .int k t, .int v tv] c o Ch fun h h' x o' => x = .none ∧ SetP w c nums st k v sh₀ o.us h h' o' fun st' => { st' with pairs := kdfPut st'.pairs k v } := by
  by_cases hs : st.sz = true
  · rw [if_pos hs] at hv0 h1
    exact cset_specZ I W hc5 H hul h0 hr hs hv0 h1
  · rw [if_neg hs] at h1
    exact cset_specU I W hc5 H hul h0 hr (Bool.eq_false_iff.mpr hs) h1

theorem news_all {g h : Heap} {L : Addr} {l r : List (Addr × Obj)} (N : News g L h l) (hr : ∀ p ∈ r, p.1 ≠ L ∧ g.get? p.1 = none) (he : ∀ p ∈ r, h.get? p.1 = some p.2) : News g L h (l ++ r) := by
  intro p hp
  rcases List.mem_append.mp hp with q | q
  · exact N p q
  · exact ⟨he p q, hr p q⟩
/-- what storing does, seen from without -/
inductive RSetP (w : World) (c : CL) (nums : List Int) (st : CS) (k v : Int) (sh₀ : List (List Int)) (us₀ : List Value) (h h' : Heap) (o' : CO) : Prop
  | mk (st' : CS) (p' : List (Int × Int)) (r : List (Addr × Obj)) (sh : List (List Int)) (ev : evict st.sz st.room nums k (if st.sz then sizeOf v else 1) st.pairs.length st.pairs sh₀ = (p', sh₀ ++ sh)) (ep : st'.pairs = kdfPut p' k v) (W : WfK (st'.pairs.map (·.1)) st'.ks st'.ix)
    (e1 : st'.sz = st.sz) (e2 : st'.room = st.room) (e3 : st'.fch = st.fch) (I : CI w c o' st') (hu : o'.us = us₀ ++ refsOf r) (S : SeenR r sh) (hr : ∀ p ∈ r, h.get? p.1 = none ∧ h'.get? p.1 = some p.2)
theorem rset_spec {w : World} {c : CL} {o : CO} {st : CS} {nums : List Int} {Ch : Heap → Prop} {k v : Int} {t tv : Tok} {sh₀ : List (List Int)} (I : CI w c o st) (W : WfK (st.pairs.map (·.1)) st.ks st.ix) (hc5 : st.pairs.length ≤ 5) (H : ChS w c st.fch nums Ch)
    (hul : o.us.length + st.pairs.length ≤ 500) (h0 : sh₀.length = o.us.length) (hr : roomOf st.sz st.pairs ≤ st.room) (hv0 : 0 ≤ (if st.sz then sizeOf v else 1)) (h1 : (if st.sz then sizeOf v else 1) ≤ st.room) :
    Spec w 44 200 [.ref c.x, .int k t, .int v tv] c o Ch fun h h' x o' => x = .none ∧ RSetP w c nums st k v sh₀ o.us h h' o' := by
  intro A s g L m R p loose mean mg mb F N X T hd hu hh hpre hret
  ktr_enter
  intro g' L' h₁ F' N' X' T' hg EE
  have I0 := I
  have hCh : ChP g' L' Ch := H.inner hpre (by rw [led_adr] at hg; exact hg)
  obtain ⟨x, dx, ad, az, ai, ak, al⟩ := c
  obtain ⟨es, n, oD, oZ, oI, vs, nk, us, ns⟩ := o
  have od0 : OD ⟨x, dx, ad, az, ai, ak, al⟩ st es := I.od
  obtain ⟨nd, ⟨gD, gZ, gG, ⟨tC, gC⟩, ⟨tM, gM⟩, gF, gI, gK, n1, n2, n3, n4, n5, n6, n7, hes⟩, hD, hZ, hI, hK, lo1, lo2, lo3⟩ := I
  dsimp only [CL.led, CL.adr] at *
  have ⟨⟨x1, x2, x3, x4, x5, x6⟩, ⟨y1, y2, y3, y4, y5⟩, ⟨z1, z2, z3, z4⟩, ⟨w1, w2, w3⟩, ⟨v1, v2⟩, u1⟩ := nd7 nd
  k_steps
  refine (cset_spec I0 W hc5 H hul h0 hr hv0 h1).useX (r := []) (by assumption) (by assumption) (by assumption) (by assumption) (by first | exact roomD hd rfl | (simp only [depth_deeper]; omega)) (by first | exact roomU hu rfl | (simp only [units_deeper]; omega)) hh (hCh _ _ (by assumption)) (fun _ hp => nomatch hp) ?_
  intro h2 tk2 v2 o2 hPq F2 N2 M2 G2
  obtain ⟨rfl, st2, r, sh, hev, W2, e1, e2, e3, I2, hus, hsn, hfr, hln⟩ := hPq
  replace N2 := news_all N2 (fun p hp => (G2 _ (hfr p hp).1).1) (fun p hp => (hfr p hp).2)
  have hor : OwnOff r [x, dx, ad, az, ai, ak, al] := own_of fun p hp => (G2 _ (hfr p hp).1).2
  have hnr : ∀ p ∈ r, p.1 ∉ [x, dx, ad, az, ai, ak, al] := fun p hp => (G2 _ (hfr p hp).1).2
  obtain ⟨es2, n2, oD2, oZ2, oI2, vs2, nk2, us2, ns2⟩ := o2
  have I3 := I2
  have od2 : OD ⟨x, dx, ad, az, ai, ak, al⟩ _ es2 := I2.od
  obtain ⟨_, ⟨gD2, gZ2, gG2, ⟨tC2, gC2⟩, ⟨tM2, gM2⟩, gF2, gI2, gK2, p1, p2, p3, p4, p5, p6, p7, hes2⟩, hD2, hZ2, hI2, hK2, _, _, _⟩ := I2
  dsimp only [CL.led, CL.adr, List.cons_append, List.nil_append] at *
  have hl1 : st2.ks.length ≤ 1000 := by rw [W2.kslen, List.length_map]; omega
  have hl2 : st2.ix.length ≤ 1000 := by rw [W2.ixlen]; exact hl1
  k_steps
  ·
    rename kdfHas st2.ix k = true => hk
    have hk2 : kdfHas st2.pairs k = true := has_iff.mpr (W2.same.mp hk)
    try dsimp only
    rename Fr g' _ _ _ => kF
    rename News g' _ _ _ => kN
    obtain ⟨q1, q2, q3⟩ := backM F N hg kF (news7 kN) rfl
    refine hret _ _ _ ⟨_, _, _, _, _, _, _, _, _⟩ ⟨rfl, { st2 with pairs := kdfPut st2.pairs k v }, st2.pairs, r, sh, hev, rfl, ?_, e1, e2, e3, ⟨nd, od2, hD2, hZ2, hI2, hK2, lo1, lo2, lo3⟩, hus, hsn, fun p hp => ⟨fresh_g hg (news7r kN p hp).2 (hnr p hp), (news7r kN p hp).1⟩⟩ q1 q2 q3
    dsimp only
    rw [put_keys_in hk2]; exact W2
  ·
    rename kdfHas st2.ix k = false => hk
    have hk2 : kdfHas st2.pairs k = false := by
      cases q : kdfHas st2.pairs k with
      | false => rfl
      | true => rw [W2.same.mpr (has_iff.mp q)] at hk; cases hk
    try dsimp only
    rename Fr g' _ _ _ => kF
    rename News g' _ _ _ => kN
    obtain ⟨q1, q2, q3⟩ := backM F N hg kF (news7 kN) rfl
    refine hret _ _ _ ⟨_, _, _, _, _, _, _, _, _⟩ ⟨rfl, { st2 with pairs := kdfPut st2.pairs k v, ks := st2.ks ++ [k], ix := kdfPut st2.ix k (st2.ks.length : Nat) }, st2.pairs, r, sh, hev, rfl, ?_, e1, e2, e3, ⟨nd, od2.cong rfl rfl rfl rfl, hD2, hZ2, ?_, ?_, lo1, lo2, lo3⟩, hus, hsn, fun p hp => ⟨fresh_g hg (news7r kN p hp).2 (hnr p hp), (news7r kN p hp).1⟩⟩ q1 q2 q3
    · dsimp only
      rw [put_off hk2, List.map_append]
      refine W2.add fun q => ?_
      rw [has_iff.mpr q] at hk2; cases hk2
    · assumption
    · dsimp only
      rw [List.concat_eq_append]
      exact ints_append hK2 (.cons _ _ .nil)
end
section
def CS.del (st : CS) (k : Int) : CS := { st with pairs := delI st.pairs k, ks := delK st.ks (kdfLook st.ix k 0).toNat, ix := delX st.ks st.ix k }
theorem get_in {w : World} {c : CL} {o : CO} {st : CS} {k d : Int} {t td : Tok} (I : CI w c o st) (hk : kdfHas st.pairs k = true) : Spec w 10 115 [.ref c.x, .int k t, .int d td] c o noPre fun _ _ v o' => (∃ t', v = .int (kdfLook st.pairs k 0) t') ∧ o' = o := by
  intro A s g L m R p loose mean mg mb F N X T hd hu hh hpre hret
  ktr_enter
  intro g' L' h₁ F' N' X' T' hg EE
  have I0 := I
  obtain ⟨x, dx, ad, az, ai, ak, al⟩ := c
  obtain ⟨es, n, oD, oZ, oI, vs, nk, us, ns⟩ := o
  have od0 : OD ⟨x, dx, ad, az, ai, ak, al⟩ st es := I.od
  obtain ⟨nd, ⟨gD, gZ, gG, ⟨tC, gC⟩, ⟨tM, gM⟩, gF, gI, gK, n1, n2, n3, n4, n5, n6, n7, hes⟩, hD, hZ, hI, hK, lo1, lo2, lo3⟩ := I
  dsimp only [CL.led, CL.adr] at *
  have ⟨⟨x1, x2, x3, x4, x5, x6⟩, ⟨y1, y2, y3, y4, y5⟩, ⟨z1, z2, z3, z4⟩, ⟨w1, w2, w3⟩, ⟨v1, v2⟩, u1⟩ := nd7 nd
  k_steps
  refine (contains_spec I0).useX (r := []) (by assumption) (by assumption) (by assumption) (by assumption) (by first | exact roomD hd rfl | (simp only [depth_deeper, depth_in1]; omega)) (by first | exact roomU hu rfl | exact roomU1 hu rfl | (simp only [units_deeper, units_in1]; omega)) hh trivial (fun _ hp => nomatch hp) ?_
  intro h2 tk2 v2 o2 hPq F2 N2 M2 G2
  obtain ⟨rfl, rfl⟩ := hPq
  dsimp only [CL.led, CL.adr, List.cons_append, List.nil_append] at N2
  k_steps
  refine (getitem_spec I0 hk).useX (r := []) (by assumption) (by assumption) (by assumption) (by assumption) (by first | exact roomD hd rfl | (simp only [depth_deeper, depth_in1]; omega)) (by first | exact roomU hu rfl | exact roomU1 hu rfl | (simp only [units_deeper, units_in1]; omega)) hh trivial (fun _ hp => nomatch hp) ?_
  intro h3 tk3 v3 o3 hPq F3 N3 M3 G3
  obtain ⟨⟨t3, rfl⟩, rfl⟩ := hPq
  dsimp only [CL.led, CL.adr, List.cons_append, List.nil_append] at N3
  k_steps
  try dsimp only
  rename Fr g' _ _ _ => kF
  rename News g' _ _ _ => kN
  obtain ⟨q1, q2, q3⟩ := backM F N hg kF kN rfl
  exact hret _ _ _ _ ⟨⟨_, rfl⟩, rfl⟩ q1 q2 q3
theorem get_off {w : World} {c : CL} {o : CO} {st : CS} {k d : Int} {t td : Tok} (I : CI w c o st) (hk : kdfHas st.pairs k = false) : Spec w 10 115 [.ref c.x, .int k t, .int d td] c o noPre fun _ _ v o' => (∃ t', v = .int d t') ∧ o' = o := by
  intro A s g L m R p loose mean mg mb F N X T hd hu hh hpre hret
  ktr_enter
  intro g' L' h₁ F' N' X' T' hg EE
  have I0 := I
  obtain ⟨x, dx, ad, az, ai, ak, al⟩ := c
  obtain ⟨es, n, oD, oZ, oI, vs, nk, us, ns⟩ := o
  have od0 : OD ⟨x, dx, ad, az, ai, ak, al⟩ st es := I.od
  obtain ⟨nd, ⟨gD, gZ, gG, ⟨tC, gC⟩, ⟨tM, gM⟩, gF, gI, gK, n1, n2, n3, n4, n5, n6, n7, hes⟩, hD, hZ, hI, hK, lo1, lo2, lo3⟩ := I
  dsimp only [CL.led, CL.adr] at *
  have ⟨⟨x1, x2, x3, x4, x5, x6⟩, ⟨y1, y2, y3, y4, y5⟩, ⟨z1, z2, z3, z4⟩, ⟨w1, w2, w3⟩, ⟨v1, v2⟩, u1⟩ := nd7 nd
  k_steps
  refine (contains_spec I0).useX (r := []) (by assumption) (by assumption) (by assumption) (by assumption) (by first | exact roomD hd rfl | (simp only [depth_deeper, depth_in1]; omega)) (by first | exact roomU hu rfl | exact roomU1 hu rfl | (simp only [units_deeper, units_in1]; omega)) hh trivial (fun _ hp => nomatch hp) ?_
  intro h2 tk2 v2 o2 hPq F2 N2 M2 G2
  obtain ⟨rfl, rfl⟩ := hPq
  dsimp only [CL.led, CL.adr, List.cons_append, List.nil_append] at N2
  k_steps
  try dsimp only
  rename Fr g' _ _ _ => kF
  rename News g' _ _ _ => kN
  obtain ⟨q1, q2, q3⟩ := backM F N hg kF kN rfl
  exact hret _ _ _ _ ⟨⟨_, rfl⟩, rfl⟩ q1 q2 q3
theorem pop_off {w : World} {c : CL} {o : CO} {st : CS} {k d : Int} {t td : Tok} (I : CI w c o st) (hk : kdfHas st.pairs k = false) : Spec w 10 123 [.ref c.x, .int k t, .int d td] c o noPre fun _ _ v o' => (∃ t', v = .int d t') ∧ o' = o := by
  intro A s g L m R p loose mean mg mb F N X T hd hu hh hpre hret
  ktr_enter
  intro g' L' h₁ F' N' X' T' hg EE
  have I0 := I
  obtain ⟨x, dx, ad, az, ai, ak, al⟩ := c
  obtain ⟨es, n, oD, oZ, oI, vs, nk, us, ns⟩ := o
  have od0 : OD ⟨x, dx, ad, az, ai, ak, al⟩ st es := I.od
  obtain ⟨nd, ⟨gD, gZ, gG, ⟨tC, gC⟩, ⟨tM, gM⟩, gF, gI, gK, n1, n2, n3, n4, n5, n6, n7, hes⟩, hD, hZ, hI, hK, lo1, lo2, lo3⟩ := I
  dsimp only [CL.led, CL.adr] at *
  have ⟨⟨x1, x2, x3, x4, x5, x6⟩, ⟨y1, y2, y3, y4, y5⟩, ⟨z1, z2, z3, z4⟩, ⟨w1, w2, w3⟩, ⟨v1, v2⟩, u1⟩ := nd7 nd
  k_steps
  refine (contains_spec I0).useX (r := []) (by assumption) (by assumption) (by assumption) (by assumption) (by first | exact roomD hd rfl | (simp only [depth_deeper, depth_in1]; omega)) (by first | exact roomU hu rfl | exact roomU1 hu rfl | (simp only [units_deeper, units_in1]; omega)) hh trivial (fun _ hp => nomatch hp) ?_
  intro h2 tk2 v2 o2 hPq F2 N2 M2 G2
  obtain ⟨rfl, rfl⟩ := hPq
  dsimp only [CL.led, CL.adr, List.cons_append, List.nil_append] at N2
  k_steps
  try dsimp only
  rename Fr g' _ _ _ => kF
  rename News g' _ _ _ => kN
  obtain ⟨q1, q2, q3⟩ := backM F N hg kF kN rfl
  exact hret _ _ _ _ ⟨⟨_, rfl⟩, rfl⟩ q1 q2 q3
theorem pop_in2 {w : World} {c : CL} {o : CO} {st : CS} {k d : Int} {t td : Tok} (I : CI w c o st) (hk : kdfHas st.pairs k = true) (hc1 : st.pairs.length ≤ 1000) (W : WfK (st.pairs.map (·.1)) st.ks st.ix) :
    Spec w 10 123 [.ref c.x, .int k t, .int d td] c o noPre fun _ _ v o' => (∃ t', v = .int (kdfLook st.pairs k 0) t') ∧ CI w c o' (st.del k) ∧ o'.us = o.us := by
  intro A s g L m R p loose mean mg mb F N X T hd hu hh hpre hret
  ktr_enter
  intro g' L' h₁ F' N' X' T' hg EE
  have I0 := I
  obtain ⟨x, dx, ad, az, ai, ak, al⟩ := c
  obtain ⟨es, n, oD, oZ, oI, vs, nk, us, ns⟩ := o
  have od0 : OD ⟨x, dx, ad, az, ai, ak, al⟩ st es := I.od
  obtain ⟨nd, ⟨gD, gZ, gG, ⟨tC, gC⟩, ⟨tM, gM⟩, gF, gI, gK, n1, n2, n3, n4, n5, n6, n7, hes⟩, hD, hZ, hI, hK, lo1, lo2, lo3⟩ := I
  dsimp only [CL.led, CL.adr] at *
  have ⟨⟨x1, x2, x3, x4, x5, x6⟩, ⟨y1, y2, y3, y4, y5⟩, ⟨z1, z2, z3, z4⟩, ⟨w1, w2, w3⟩, ⟨v1, v2⟩, u1⟩ := nd7 nd
  k_steps
  refine (contains_spec I0).useX (r := []) (by assumption) (by assumption) (by assumption) (by assumption) (by first | exact roomD hd rfl | (simp only [depth_deeper, depth_in1]; omega)) (by first | exact roomU hu rfl | exact roomU1 hu rfl | (simp only [units_deeper, units_in1]; omega)) hh trivial (fun _ hp => nomatch hp) ?_
  intro h2 tk2 v2 o2 hPq F2 N2 M2 G2
  obtain ⟨rfl, rfl⟩ := hPq
  dsimp only [CL.led, CL.adr, List.cons_append, List.nil_append] at N2
  k_steps
  refine (getitem_spec I0 hk).useX (r := []) (by assumption) (by assumption) (by assumption) (by assumption) (by first | exact roomD hd rfl | (simp only [depth_deeper, depth_in1]; omega)) (by first | exact roomU hu rfl | exact roomU1 hu rfl | (simp only [units_deeper, units_in1]; omega)) hh trivial (fun _ hp => nomatch hp) ?_
  intro h3 tk3 v3 o3 hPq F3 N3 M3 G3
  obtain ⟨⟨t3, rfl⟩, rfl⟩ := hPq
  dsimp only [CL.led, CL.adr, List.cons_append, List.nil_append] at N3
  k_steps
  refine (rdel_spec I0 hk hc1 W).useX (r := []) (by assumption) (by assumption) (by assumption) (by assumption) (by first | exact roomD hd rfl | (simp only [depth_deeper, depth_in1]; omega)) (by first | exact roomU hu rfl | exact roomU1 hu rfl | (simp only [units_deeper, units_in1]; omega)) hh trivial (fun _ hp => nomatch hp) ?_
  intro h2 tk2 v2 o2 hPq F2 N2 M2 G2
  obtain ⟨rfl, I2, hus⟩ := hPq
  have I20 := I2
  obtain ⟨es2, n2, oD2, oZ2, oI2, vs2, nk2, us2, ns2⟩ := o2
  have I3 := I2
  have od2 : OD ⟨x, dx, ad, az, ai, ak, al⟩ _ es2 := I2.od
  obtain ⟨_, ⟨gD2, gZ2, gG2, ⟨tC2, gC2⟩, ⟨tM2, gM2⟩, gF2, gI2, gK2, p1, p2, p3, p4, p5, p6, p7, hes2⟩, hD2, hZ2, hI2, hK2, _, _, _⟩ := I2
  dsimp only [CL.led, CL.adr, List.cons_append, List.nil_append] at *
  k_steps
  try dsimp only
  rename Fr g' _ _ _ => kF
  rename News g' _ _ _ => kN
  obtain ⟨q1, q2, q3⟩ := backM F N hg kF kN rfl
  exact hret _ _ _ _ ⟨⟨_, rfl⟩, I20, hus⟩ q1 q2 q3
theorem pop_in1 {w : World} {c : CL} {o : CO} {st : CS} {k : Int} {t : Tok} (I : CI w c o st) (hk : kdfHas st.pairs k = true) (hc1 : st.pairs.length ≤ 1000) (W : WfK (st.pairs.map (·.1)) st.ks st.ix) :
    Spec w 10 123 [.ref c.x, .int k t] c o noPre fun _ _ v o' => (∃ t', v = .int (kdfLook st.pairs k 0) t') ∧ CI w c o' (st.del k) ∧ o'.us = o.us := by
  intro A s g L m R p loose mean mg mb F N X T hd hu hh hpre hret
  ktr_enter
  intro g' L' h₁ F' N' X' T' hg EE
  have I0 := I
  obtain ⟨x, dx, ad, az, ai, ak, al⟩ := c
  obtain ⟨es, n, oD, oZ, oI, vs, nk, us, ns⟩ := o
  have od0 : OD ⟨x, dx, ad, az, ai, ak, al⟩ st es := I.od
  obtain ⟨nd, ⟨gD, gZ, gG, ⟨tC, gC⟩, ⟨tM, gM⟩, gF, gI, gK, n1, n2, n3, n4, n5, n6, n7, hes⟩, hD, hZ, hI, hK, lo1, lo2, lo3⟩ := I
  dsimp only [CL.led, CL.adr] at *
  have ⟨⟨x1, x2, x3, x4, x5, x6⟩, ⟨y1, y2, y3, y4, y5⟩, ⟨z1, z2, z3, z4⟩, ⟨w1, w2, w3⟩, ⟨v1, v2⟩, u1⟩ := nd7 nd
  k_steps
  refine (contains_spec I0).useX (r := []) (by assumption) (by assumption) (by assumption) (by assumption) (by first | exact roomD hd rfl | (simp only [depth_deeper, depth_in1]; omega)) (by first | exact roomU hu rfl | exact roomU1 hu rfl | (simp only [units_deeper, units_in1]; omega)) hh trivial (fun _ hp => nomatch hp) ?_
  intro h2 tk2 v2 o2 hPq F2 N2 M2 G2
  obtain ⟨rfl, rfl⟩ := hPq
  dsimp only [CL.led, CL.adr, List.cons_append, List.nil_append] at N2
  k_steps
  refine (getitem_spec I0 hk).useX (r := []) (by assumption) (by assumption) (by assumption) (by assumption) (by first | exact roomD hd rfl | (simp only [depth_deeper, depth_in1]; omega)) (by first | exact roomU hu rfl | exact roomU1 hu rfl | (simp only [units_deeper, units_in1]; omega)) hh trivial (fun _ hp => nomatch hp) ?_
  intro h3 tk3 v3 o3 hPq F3 N3 M3 G3
  obtain ⟨⟨t3, rfl⟩, rfl⟩ := hPq
  dsimp only [CL.led, CL.adr, List.cons_append, List.nil_append] at N3
  k_steps
  refine (rdel_spec I0 hk hc1 W).useX (r := []) (by assumption) (by assumption) (by assumption) (by assumption) (by first | exact roomD hd rfl | (simp only [depth_deeper, depth_in1]; omega)) (by first | exact roomU hu rfl | exact roomU1 hu rfl | (simp only [units_deeper, units_in1]; omega)) hh trivial (fun _ hp => nomatch hp) ?_
  intro h2 tk2 v2 o2 hPq F2 N2 M2 G2
  obtain ⟨rfl, I2, hus⟩ := hPq
  have I20 := I2
  obtain ⟨es2, n2, oD2, oZ2, oI2, vs2, nk2, us2, ns2⟩ := o2
  have I3 := I2
  have od2 : OD ⟨x, dx, ad, az, ai, ak, al⟩ _ es2 := I2.od
  obtain ⟨_, ⟨gD2, gZ2, gG2, ⟨tC2, gC2⟩, ⟨tM2, gM2⟩, gF2, gI2, gK2, p1, p2, p3, p4, p5, p6, p7, hes2⟩, hD2, hZ2, hI2, hK2, _, _, _⟩ := I2
  dsimp only [CL.led, CL.adr, List.cons_append, List.nil_append] at *
  k_steps
  try dsimp only
  rename Fr g' _ _ _ => kF
  rename News g' _ _ _ => kN
  obtain ⟨q1, q2, q3⟩ := backM F N hg kF kN rfl
  exact hret _ _ _ _ ⟨⟨_, rfl⟩, I20, hus⟩ q1 q2 q3
theorem sdef_in {w : World} {c : CL} {o : CO} {st : CS} {k d : Int} {t td : Tok} (I : CI w c o st) (hk : kdfHas st.pairs k = true) : Spec w 50 131 [.ref c.x, .int k t, .int d td] c o noPre fun _ _ v o' => (∃ t', v = .int (kdfLook st.pairs k 0) t') ∧ o' = o := by
  intro A s g L m R p loose mean mg mb F N X T hd hu hh hpre hret
  ktr_enter
  intro g' L' h₁ F' N' X' T' hg EE
  have I0 := I
  obtain ⟨x, dx, ad, az, ai, ak, al⟩ := c
  obtain ⟨es, n, oD, oZ, oI, vs, nk, us, ns⟩ := o
  have od0 : OD ⟨x, dx, ad, az, ai, ak, al⟩ st es := I.od
  obtain ⟨nd, ⟨gD, gZ, gG, ⟨tC, gC⟩, ⟨tM, gM⟩, gF, gI, gK, n1, n2, n3, n4, n5, n6, n7, hes⟩, hD, hZ, hI, hK, lo1, lo2, lo3⟩ := I
  dsimp only [CL.led, CL.adr] at *
  have ⟨⟨x1, x2, x3, x4, x5, x6⟩, ⟨y1, y2, y3, y4, y5⟩, ⟨z1, z2, z3, z4⟩, ⟨w1, w2, w3⟩, ⟨v1, v2⟩, u1⟩ := nd7 nd
  k_steps
  refine (contains_spec I0).useX (r := []) (by assumption) (by assumption) (by assumption) (by assumption) (by first | exact roomD hd rfl | (simp only [depth_deeper, depth_in1]; omega)) (by first | exact roomU hu rfl | exact roomU1 hu rfl | (simp only [units_deeper, units_in1]; omega)) hh trivial (fun _ hp => nomatch hp) ?_
  intro h2 tk2 v2 o2 hPq F2 N2 M2 G2
  obtain ⟨rfl, rfl⟩ := hPq
  dsimp only [CL.led, CL.adr, List.cons_append, List.nil_append] at N2
  k_steps
  refine (getitem_spec I0 hk).useX (r := []) (by assumption) (by assumption) (by assumption) (by assumption) (by first | exact roomD hd rfl | (simp only [depth_deeper, depth_in1]; omega)) (by first | exact roomU hu rfl | exact roomU1 hu rfl | (simp only [units_deeper, units_in1]; omega)) hh trivial (fun _ hp => nomatch hp) ?_
  intro h3 tk3 v3 o3 hPq F3 N3 M3 G3
  obtain ⟨⟨t3, rfl⟩, rfl⟩ := hPq
  dsimp only [CL.led, CL.adr, List.cons_append, List.nil_append] at N3
  k_steps
  try dsimp only
  rename Fr g' _ _ _ => kF
  rename News g' _ _ _ => kN
  obtain ⟨q1, q2, q3⟩ := backM F N hg kF kN rfl
  exact hret _ _ _ _ ⟨⟨_, rfl⟩, rfl⟩ q1 q2 q3
theorem sdef_off {w : World} {c : CL} {o : CO} {st : CS} {nums : List Int} {Ch : Heap → Prop} {k v : Int} {t tv : Tok} {sh₀ : List (List Int)} (I : CI w c o st) (hk : kdfHas st.pairs k = false) (W : WfK (st.pairs.map (·.1)) st.ks st.ix) (hc5 : st.pairs.length ≤ 5) (H : ChS w c st.fch nums Ch)
    (hul : o.us.length + st.pairs.length ≤ 500) (h0 : sh₀.length = o.us.length) (hr : roomOf st.sz st.pairs ≤ st.room) (hv0 : 0 ≤ (if st.sz then sizeOf v else 1)) (h1 : (if st.sz then sizeOf v else 1) ≤ st.room) :
    Spec w 50 131 [.ref c.x, .int k t, .int v tv] c o Ch fun h h' x o' => (∃ t', x = .int v t') ∧ RSetP w c nums st k v sh₀ o.us h h' o' := by
  intro A s g L m R p loose mean mg mb F N X T hd hu hh hpre hret
  ktr_enter
  intro g' L' h₁ F' N' X' T' hg EE
  have I0 := I
  have hCh : ChP g' L' Ch := H.inner hpre (by rw [led_adr] at hg; exact hg)
  obtain ⟨x, dx, ad, az, ai, ak, al⟩ := c
  obtain ⟨es, n, oD, oZ, oI, vs, nk, us, ns⟩ := o
  have od0 : OD ⟨x, dx, ad, az, ai, ak, al⟩ st es := I.od
  obtain ⟨nd, ⟨gD, gZ, gG, ⟨tC, gC⟩, ⟨tM, gM⟩, gF, gI, gK, n1, n2, n3, n4, n5, n6, n7, hes⟩, hD, hZ, hI, hK, lo1, lo2, lo3⟩ := I
  dsimp only [CL.led, CL.adr] at *
  have ⟨⟨x1, x2, x3, x4, x5, x6⟩, ⟨y1, y2, y3, y4, y5⟩, ⟨z1, z2, z3, z4⟩, ⟨w1, w2, w3⟩, ⟨v1, v2⟩, u1⟩ := nd7 nd
  k_steps
  refine (contains_spec I0).useX (r := []) (by assumption) (by assumption) (by assumption) (by assumption) (by first | exact roomD hd rfl | (simp only [depth_deeper, depth_in1]; omega)) (by first | exact roomU hu rfl | exact roomU1 hu rfl | (simp only [units_deeper, units_in1]; omega)) hh trivial (fun _ hp => nomatch hp) ?_
  intro h2 tk2 v2 o2 hPq F2 N2 M2 G2
  obtain ⟨rfl, rfl⟩ := hPq
  dsimp only [CL.led, CL.adr, List.cons_append, List.nil_append] at N2
  k_steps
  refine (rset_spec I0 W hc5 H hul h0 hr hv0 h1).useX (r := []) (by assumption) (by assumption) (by assumption) (by assumption) (by first | exact roomD hd rfl | (simp only [depth_deeper, depth_in1]; omega)) (by first | exact roomU hu rfl | exact roomU1 hu rfl | (simp only [units_deeper, units_in1]; omega)) hh (hCh _ _ (by assumption)) (fun _ hp => nomatch hp) ?_
  intro h2 tk2 v2 o2 hPq F2 N2 M2 G2
  obtain ⟨rfl, st2, p', r, sh, hev, hp, W2, e1, e2, e3, I2, hus, hsn, hfr⟩ := hPq
  replace N2 := news_all N2 (fun p hp => (G2 _ (hfr p hp).1).1) (fun p hp => (hfr p hp).2)
  have hnr : ∀ p ∈ r, p.1 ∉ [x, dx, ad, az, ai, ak, al] := fun p hp => (G2 _ (hfr p hp).1).2
  have I20 := I2
  obtain ⟨es2, n2, oD2, oZ2, oI2, vs2, nk2, us2, ns2⟩ := o2
  have I3 := I2
  have od2 : OD ⟨x, dx, ad, az, ai, ak, al⟩ _ es2 := I2.od
  obtain ⟨_, ⟨gD2, gZ2, gG2, ⟨tC2, gC2⟩, ⟨tM2, gM2⟩, gF2, gI2, gK2, p1, p2, p3, p4, p5, p6, p7, hes2⟩, hD2, hZ2, hI2, hK2, _, _, _⟩ := I2
  dsimp only [CL.led, CL.adr, List.cons_append, List.nil_append] at *
  k_steps
  try dsimp only
  rename Fr g' _ _ _ => kF
  rename News g' _ _ _ => kN
  obtain ⟨q1, q2, q3⟩ := backM F N hg kF (news7 kN) rfl
  exact hret _ _ _ _ ⟨⟨_, rfl⟩, st2, p', r, sh, hev, hp, W2, e1, e2, e3, I20, hus, hsn, fun p hp => ⟨fresh_g hg (news7r kN p hp).2 (hnr p hp), (news7r kN p hp).1⟩⟩ q1 q2 q3
end
section
theorem cclear_specZ {w : World} {c : CL} {o : CO} {st : CS} (I : CI w c o st) (hs : st.sz = true) (hc1 : st.pairs.length ≤ 1000) : Spec w 4 138 [.ref c.x] c o noPre fun _ _ v o' => v = .none ∧ CI w c o' { st with pairs := [] } ∧ o'.us = o.us := by
  intro A s g L m R p loose mean mg mb F N X T hd hu hh hpre hret
  ktr_enter
  intro g' L' h₁ F' N' X' T' hg EE
  obtain ⟨x, dx, ad, az, ai, ak, al⟩ := c
  obtain ⟨es, n, oD, oZ, oI, vs, nk, us, ns⟩ := o
  have od0 : OD ⟨x, dx, ad, az, ai, ak, al⟩ st es := I.od
  obtain ⟨nd, ⟨gD, gZ, gG, ⟨tC, gC⟩, ⟨tM, gM⟩, gF, gI, gK, n1, n2, n3, n4, n5, n6, n7, hes⟩, hD, hZ, hI, hK, lo1, lo2, lo3⟩ := I
  dsimp only [CL.led, CL.adr] at *
  have ⟨⟨x1, x2, x3, x4, x5, x6⟩, ⟨y1, y2, y3, y4, y5⟩, ⟨z1, z2, z3, z4⟩, ⟨w1, w2, w3⟩, ⟨v1, v2⟩, u1⟩ := nd7 nd
  rw [hs, if_pos rfl] at gZ
  have hZ' := hZ hs
  have hc2 : (st.pairs.map fun p => (p.1, sizeOf p.2)).length ≤ 1000 := by rw [List.length_map]; exact hc1
  k_steps
  try dsimp only
  rename Fr g' _ _ _ => kF
  rename News g' _ _ _ => kN
  obtain ⟨q1, q2, q3⟩ := backM F N hg kF kN rfl
  refine hret _ _ _ ⟨_, _, _, _, _, _, _, _, _⟩ ⟨rfl, ⟨nd, ?_, ?_, ?_, hI, hK, lo1, lo2, lo3⟩, rfl⟩ q1 q2 q3
  · exact od0.put (by assumption) (by assumption) (by rfl) rfl rfl rfl
  · assumption
  · intro _; assumption
theorem cclear_specU {w : World} {c : CL} {o : CO} {st : CS} (I : CI w c o st) (hs : st.sz = false) (hc1 : st.pairs.length ≤ 1000) : Spec w 4 138 [.ref c.x] c o noPre fun _ _ v o' => v = .none ∧ CI w c o' { st with pairs := [] } ∧ o'.us = o.us := by
  intro A s g L m R p loose mean mg mb F N X T hd hu hh hpre hret
  ktr_enter
  intro g' L' h₁ F' N' X' T' hg EE
  obtain ⟨x, dx, ad, az, ai, ak, al⟩ := c
  obtain ⟨es, n, oD, oZ, oI, vs, nk, us, ns⟩ := o
  have od0 : OD ⟨x, dx, ad, az, ai, ak, al⟩ st es := I.od
  obtain ⟨nd, ⟨gD, gZ, gG, ⟨tC, gC⟩, ⟨tM, gM⟩, gF, gI, gK, n1, n2, n3, n4, n5, n6, n7, hes⟩, hD, hZ, hI, hK, lo1, lo2, lo3⟩ := I
  dsimp only [CL.led, CL.adr] at *
  have ⟨⟨x1, x2, x3, x4, x5, x6⟩, ⟨y1, y2, y3, y4, y5⟩, ⟨z1, z2, z3, z4⟩, ⟨w1, w2, w3⟩, ⟨v1, v2⟩, u1⟩ := nd7 nd
  rw [hs] at gZ
  have gZ' : getL "_Cache__size" es = some none := gZ
  k_steps
  try dsimp only
  rename Fr g' _ _ _ => kF
  rename News g' _ _ _ => kN
  obtain ⟨q1, q2, q3⟩ := backM F N hg kF kN rfl
  refine hret _ _ _ ⟨_, _, _, _, _, _, _, _, _⟩ ⟨rfl, ⟨nd, ?_, ?_, ?_, hI, hK, lo1, lo2, lo3⟩, rfl⟩ q1 q2 q3
  · exact od0.put (by assumption) (by assumption) (by rfl) rfl rfl rfl
  · assumption
  · intro h; rw [hs] at h; cases h
theorem cclear_spec {w : World} {c : CL} {o : CO} {st : CS} (I : CI w c o st) (hc1 : st.pairs.length ≤ 1000) : Spec w 4 138 [.ref c.x] c o noPre fun _ _ v o' => v = .none ∧ CI w c o' { st with pairs := [] } ∧ o'.us = o.us := by
  by_cases hs : st.sz = true
  · exact cclear_specZ I hs hc1
  · exact cclear_specU I (Bool.eq_false_iff.mpr hs) hc1
theorem rclear_spec {w : World} {c : CL} {o : CO} {st : CS} (I : CI w c o st) (hc1 : st.pairs.length ≤ 1000) (W : WfK (st.pairs.map (·.1)) st.ks st.ix) :
    Spec w 10 222 [.ref c.x] c o noPre fun _ _ v o' => v = .none ∧ CI w c o' { st with pairs := [], ks := [], ix := [] } ∧ o'.us = o.us := by
  have hl1 : st.ks.length ≤ 1000 := by rw [W.kslen, List.length_map]; exact hc1
  have hl2 : st.ix.length ≤ 1000 := by rw [W.ixlen]; exact hl1
  intro A s g L m R p loose mean mg mb F N X T hd hu hh hpre hret
  ktr_enter
  intro g' L' h₁ F' N' X' T' hg EE
  have I0 := I
  obtain ⟨x, dx, ad, az, ai, ak, al⟩ := c
  obtain ⟨es, n, oD, oZ, oI, vs, nk, us, ns⟩ := o
  have od0 : OD ⟨x, dx, ad, az, ai, ak, al⟩ st es := I.od
  obtain ⟨nd, ⟨gD, gZ, gG, ⟨tC, gC⟩, ⟨tM, gM⟩, gF, gI, gK, n1, n2, n3, n4, n5, n6, n7, hes⟩, hD, hZ, hI, hK, lo1, lo2, lo3⟩ := I
  dsimp only [CL.led, CL.adr] at *
  have ⟨⟨x1, x2, x3, x4, x5, x6⟩, ⟨y1, y2, y3, y4, y5⟩, ⟨z1, z2, z3, z4⟩, ⟨w1, w2, w3⟩, ⟨v1, v2⟩, u1⟩ := nd7 nd
  k_steps
  refine (cclear_spec I0 hc1).useX (r := []) (by assumption) (by assumption) (by assumption) (by assumption) (by first | exact roomD hd rfl | (simp only [depth_deeper, depth_in1]; omega)) (by first | exact roomU hu rfl | exact roomU1 hu rfl | (simp only [units_deeper, units_in1]; omega)) hh trivial (fun _ hp => nomatch hp) ?_
  intro h2 tk2 v2 o2 hPq F2 N2 M2 G2
  obtain ⟨rfl, I2, hus⟩ := hPq
  obtain ⟨es2, n2, oD2, oZ2, oI2, vs2, nk2, us2, ns2⟩ := o2
  have I3 := I2
  have od2 : OD ⟨x, dx, ad, az, ai, ak, al⟩ _ es2 := I2.od
  obtain ⟨_, ⟨gD2, gZ2, gG2, ⟨tC2, gC2⟩, ⟨tM2, gM2⟩, gF2, gI2, gK2, p1, p2, p3, p4, p5, p6, p7, hes2⟩, hD2, hZ2, hI2, hK2, _, _, _⟩ := I2
  dsimp only [CL.led, CL.adr, List.cons_append, List.nil_append] at *
  have hvl : vs2.length ≤ 1000 := by have := hK2.length; omega
  k_steps
  refine' l_clear ?F ?N ?U ?hs rfl ?_
  case F => k_asm
  case N => k_asm
  case U => k_updF
  case hs => exact hvl
  intro h3 n3 F3 N3
  try dsimp only at N3
  k_steps
  try dsimp only
  rename Fr g' _ _ _ => kF
  rename News g' _ _ _ => kN
  obtain ⟨q1, q2, q3⟩ := backM F N hg kF kN rfl
  refine hret _ _ _ ⟨_, _, _, _, _, _, _, _, _⟩ ⟨rfl, ⟨nd, od2.cong rfl rfl rfl rfl, hD2, hZ2, ?_, .nil, lo1, lo2, lo3⟩, hus⟩ q1 q2 q3
  assumption
theorem len_spec {w : World} {c : CL} {o : CO} {st : CS} (I : CI w c o st) (hc1 : st.pairs.length ≤ 1000) : Spec w 4 107 [.ref c.x] c o noPre fun _ _ v o' => (∃ t', v = .int (st.pairs.length : Nat) t') ∧ o' = o := by
  intro A s g L m R p loose mean mg mb F N X T hd hu hh hpre hret
  ktr_enter
  intro g' L' h₁ F' N' X' T' hg EE
  obtain ⟨x, dx, ad, az, ai, ak, al⟩ := c
  obtain ⟨es, n, oD, oZ, oI, vs, nk, us, ns⟩ := o
  have od0 : OD ⟨x, dx, ad, az, ai, ak, al⟩ st es := I.od
  obtain ⟨nd, ⟨gD, gZ, gG, ⟨tC, gC⟩, ⟨tM, gM⟩, gF, gI, gK, n1, n2, n3, n4, n5, n6, n7, hes⟩, hD, hZ, hI, hK, lo1, lo2, lo3⟩ := I
  dsimp only [CL.led, CL.adr] at *
  have ⟨⟨x1, x2, x3, x4, x5, x6⟩, ⟨y1, y2, y3, y4, y5⟩, ⟨z1, z2, z3, z4⟩, ⟨w1, w2, w3⟩, ⟨v1, v2⟩, u1⟩ := nd7 nd
  k_steps
  try dsimp only
  rename Fr g' _ _ _ => kF
  rename News g' _ _ _ => kN
  obtain ⟨q1, q2, q3⟩ := backM F N hg kF kN rfl
  exact hret _ _ _ _ ⟨⟨_, rfl⟩, rfl⟩ q1 q2 q3
theorem maxsize_spec {w : World} {c : CL} {o : CO} {st : CS} (I : CI w c o st) : Spec w 4 145 [.ref c.x] c o noPre fun _ _ v o' => (∃ t', v = .int st.room t') ∧ o' = o := by
  intro A s g L m R p loose mean mg mb F N X T hd hu hh hpre hret
  ktr_enter
  intro g' L' h₁ F' N' X' T' hg EE
  obtain ⟨x, dx, ad, az, ai, ak, al⟩ := c
  obtain ⟨es, n, oD, oZ, oI, vs, nk, us, ns⟩ := o
  have od0 : OD ⟨x, dx, ad, az, ai, ak, al⟩ st es := I.od
  obtain ⟨nd, ⟨gD, gZ, gG, ⟨tC, gC⟩, ⟨tM, gM⟩, gF, gI, gK, n1, n2, n3, n4, n5, n6, n7, hes⟩, hD, hZ, hI, hK, lo1, lo2, lo3⟩ := I
  dsimp only [CL.led, CL.adr] at *
  have ⟨⟨x1, x2, x3, x4, x5, x6⟩, ⟨y1, y2, y3, y4, y5⟩, ⟨z1, z2, z3, z4⟩, ⟨w1, w2, w3⟩, ⟨v1, v2⟩, u1⟩ := nd7 nd
  k_steps
  try dsimp only
  rename Fr g' _ _ _ => kF
  rename News g' _ _ _ => kN
  obtain ⟨q1, q2, q3⟩ := backM F N hg kF kN rfl
  exact hret _ _ _ _ ⟨⟨_, rfl⟩, rfl⟩ q1 q2 q3
theorem currsize_spec {w : World} {c : CL} {o : CO} {st : CS} (I : CI w c o st) : Spec w 4 153 [.ref c.x] c o noPre fun _ _ v o' => (∃ t', v = .int (roomOf st.sz st.pairs) t') ∧ o' = o := by
  intro A s g L m R p loose mean mg mb F N X T hd hu hh hpre hret
  ktr_enter
  intro g' L' h₁ F' N' X' T' hg EE
  obtain ⟨x, dx, ad, az, ai, ak, al⟩ := c
  obtain ⟨es, n, oD, oZ, oI, vs, nk, us, ns⟩ := o
  have od0 : OD ⟨x, dx, ad, az, ai, ak, al⟩ st es := I.od
  obtain ⟨nd, ⟨gD, gZ, gG, ⟨tC, gC⟩, ⟨tM, gM⟩, gF, gI, gK, n1, n2, n3, n4, n5, n6, n7, hes⟩, hD, hZ, hI, hK, lo1, lo2, lo3⟩ := I
  dsimp only [CL.led, CL.adr] at *
  have ⟨⟨x1, x2, x3, x4, x5, x6⟩, ⟨y1, y2, y3, y4, y5⟩, ⟨z1, z2, z3, z4⟩, ⟨w1, w2, w3⟩, ⟨v1, v2⟩, u1⟩ := nd7 nd
  k_steps
  try dsimp only
  rename Fr g' _ _ _ => kF
  rename News g' _ _ _ => kN
  obtain ⟨q1, q2, q3⟩ := backM F N hg kF kN rfl
  exact hret _ _ _ _ ⟨⟨_, rfl⟩, rfl⟩ q1 q2 q3
theorem iter_spec {w : World} {c : CL} {o : CO} {st : CS} (I : CI w c o st) : Spec w 4 100 [.ref c.x] c o noPre fun h h' v o' => (∃ it ep kvs oI, v = .ref it ∧ h.get? it = none ∧ h'.get? it = some oI ∧ KdkIter oI c.ad 0 kvs.length ep ∧ KdkAt (intKind PG w) o.oD kvs ep ∧ FlatPairs PyData.int kvs (kdfD st.pairs)) ∧ o' = o := by
  intro A s g L m R p loose mean mg mb F N X T hd hu hh hpre hret
  ktr_enter
  intro g' L' h₁ F' N' X' T' hg EE
  obtain ⟨x, dx, ad, az, ai, ak, al⟩ := c
  obtain ⟨es, n, oD, oZ, oI, vs, nk, us, ns⟩ := o
  have od0 : OD ⟨x, dx, ad, az, ai, ak, al⟩ st es := I.od
  obtain ⟨nd, ⟨gD, gZ, gG, ⟨tC, gC⟩, ⟨tM, gM⟩, gF, gI, gK, n1, n2, n3, n4, n5, n6, n7, hes⟩, hD, hZ, hI, hK, lo1, lo2, lo3⟩ := I
  dsimp only [CL.led, CL.adr] at *
  have ⟨⟨x1, x2, x3, x4, x5, x6⟩, ⟨y1, y2, y3, y4, y5⟩, ⟨z1, z2, z3, z4⟩, ⟨w1, w2, w3⟩, ⟨v1, v2⟩, u1⟩ := nd7 nd
  obtain ⟨kvs, hdo, hfl⟩ := hD
  k_steps
  rename KdkIter _ _ _ _ _ => hi
  rename KdkAt _ _ _ _ => ha
  rename _ < _ ∧ _ < _ ∧ _ => ll
  obtain ⟨l1, l2, l3, l4, l5, l6, l7⟩ := ll
  try dsimp only
  rename Fr g' _ _ _ => kF
  rename News g' _ _ _ => kN
  obtain ⟨q1, q2, q3⟩ := backM F N hg kF (news17 kN) rfl
  refine hret _ _ _ _ ⟨⟨_, _, kvs, _, rfl, fresh_of hg kN (.head _) ?_, (kN _ (.head _)).1, hi, ha, hfl⟩, rfl⟩ q1 q2 q3
  exact off7 ⟨l1, l2, l3, l4, l5, l6, l7⟩
end
section
theorem cset_refuseU {w : World} {c : CL} {o : CO} {st : CS} {k v : Int} {t tv : Tok} (I : CI w c o st) (hs : st.sz = false) (h1 : st.room < 1) : RSpec w 4 72 [.ref c.x, .int k t, .int v tv] "ValueError" c o := by
  intro A s base g' outer R p loose mean mg mb K hG hN hz X' T' XB TB D hd hu hh hret
  have XS := X'.keeps hG
  refine' enterR ?k1 ?k2 ?kz ?k3 ?k4 ?k6 ?k7 ?k8 ?k9 ?kB ?_ ?c2 ?c3 ?c4 ?c5; (case k1 => assumption); (case k2 => assumption); (case kz => assumption); (case k3 => assumption); (case k4 => assumption); (case k6 => k_is); (case k7 => k_is); (case k8 => first | exact roomA hd | ((try simp only [depth_deeper, depth_in1] at *); omega)); (case k9 => first | exact BindsTo.of_eq rfl | exact binds_K (by k_in) rfl (by k_is) rfl rfl rfl); (case kB => exact locs rfl); (case c2 => exact rfl); (case c3 => exact rfl); (case c4 => exact rfl); (case c5 => decide); k_whole
  intro L' h₁ F' N' 
  obtain ⟨x, dx, ad, az, ai, ak, al⟩ := c
  obtain ⟨es, n, oD, oZ, oI, vs, nk, us, ns⟩ := o
  have od0 : OD ⟨x, dx, ad, az, ai, ak, al⟩ st es := I.od
  obtain ⟨nd, ⟨gD, gZ, gG, ⟨tC, gC⟩, ⟨tM, gM⟩, gF, gI, gK, n1, n2, n3, n4, n5, n6, n7, hes⟩, hD, hZ, hI, hK, lo1, lo2, lo3⟩ := I
  dsimp only [CL.led, CL.adr] at *
  have ⟨⟨x1, x2, x3, x4, x5, x6⟩, ⟨y1, y2, y3, y4, y5⟩, ⟨z1, z2, z3, z4⟩, ⟨w1, w2, w3⟩, ⟨v1, v2⟩, u1⟩ := nd7 nd
  rw [hs] at gZ
  have gZ' : getL "_Cache__size" es = some none := gZ
  k_steps
  try dsimp only
  rename Fr g' _ _ _ => kF
  rename News g' _ _ _ => kN
  first
    | (rename Heap.NewExc _ _ _ _ => hx; refine leave_first K (.of hx) kF kN ?_ rfl)
    | (rename ExcN _ _ _ _ => hx; refine leave_first K hx kF kN ?_ rfl)
  intro hE RE UE
  exact hret _ _ _ RE UE
theorem cset_refuseZ {w : World} {c : CL} {o : CO} {st : CS} {k v : Int} {t tv : Tok} (I : CI w c o st) (hs : st.sz = true) (h1 : st.room < sizeOf v ∨ (sizeOf v ≤ st.room ∧ sizeOf v < 0)) : RSpec w 4 72 [.ref c.x, .int k t, .int v tv] "ValueError" c o := by
  intro A s base g' outer R p loose mean mg mb K hG hN hz X' T' XB TB D hd hu hh hret
  have XS := X'.keeps hG
  refine' enterR ?k1 ?k2 ?kz ?k3 ?k4 ?k6 ?k7 ?k8 ?k9 ?kB ?_ ?c2 ?c3 ?c4 ?c5; (case k1 => assumption); (case k2 => assumption); (case kz => assumption); (case k3 => assumption); (case k4 => assumption); (case k6 => k_is); (case k7 => k_is); (case k8 => first | exact roomA hd | ((try simp only [depth_deeper, depth_in1] at *); omega)); (case k9 => first | exact BindsTo.of_eq rfl | exact binds_K (by k_in) rfl (by k_is) rfl rfl rfl); (case kB => exact locs rfl); (case c2 => exact rfl); (case c3 => exact rfl); (case c4 => exact rfl); (case c5 => decide); k_whole
  intro L' h₁ F' N' 
  obtain ⟨x, dx, ad, az, ai, ak, al⟩ := c
  obtain ⟨es, n, oD, oZ, oI, vs, nk, us, ns⟩ := o
  have od0 : OD ⟨x, dx, ad, az, ai, ak, al⟩ st es := I.od
  obtain ⟨nd, ⟨gD, gZ, gG, ⟨tC, gC⟩, ⟨tM, gM⟩, gF, gI, gK, n1, n2, n3, n4, n5, n6, n7, hes⟩, hD, hZ, hI, hK, lo1, lo2, lo3⟩ := I
  dsimp only [CL.led, CL.adr] at *
  have ⟨⟨x1, x2, x3, x4, x5, x6⟩, ⟨y1, y2, y3, y4, y5⟩, ⟨z1, z2, z3, z4⟩, ⟨w1, w2, w3⟩, ⟨v1, v2⟩, u1⟩ := nd7 nd
  rw [hs, if_pos rfl] at gZ gG
  k_steps
  refine (size_spec).use (by assumption) (by assumption) (by assumption) (by assumption) (by first | exact roomD hd rfl | (simp only [depth_deeper, depth_in1]; omega)) (by first | exact roomU hu rfl | exact roomU1 hu rfl | (simp only [units_deeper, units_in1]; omega)) hh trivial ?_
  intro h2 tk2 v2 hPq F2 N2 M2 G2
  obtain ⟨ts, rfl⟩ := hPq
  rcases h1 with h1 | ⟨h1, h1'⟩
  ·
    k_steps
    try dsimp only
    rename Fr g' _ _ _ => kF
    rename News g' _ _ _ => kN
    first
      | (rename Heap.NewExc _ _ _ _ => hx; refine leave_first K (.of hx) kF kN ?_ rfl)
      | (rename ExcN _ _ _ _ => hx; refine leave_first K hx kF kN ?_ rfl)
    intro hE RE UE
    exact hret _ _ _ RE UE
  ·
    k_steps
    try dsimp only
    rename Fr g' _ _ _ => kF
    rename News g' _ _ _ => kN
    first
      | (rename Heap.NewExc _ _ _ _ => hx; refine leave_first K (.of hx) kF kN ?_ rfl)
      | (rename ExcN _ _ _ _ => hx; refine leave_first K hx kF kN ?_ rfl)
    intro hE RE UE
    exact hret _ _ _ RE UE
theorem cset_refuse {w : World} {c : CL} {o : CO} {st : CS} {k v : Int} {t tv : Tok} (I : CI w c o st) (h1 : ¬ (0 ≤ (if st.sz then sizeOf v else 1) ∧ (if st.sz then sizeOf v else 1) ≤ st.room)) : RSpec w 4 72 [.ref c.x, .int k t, .int v tv] "ValueError" c o := by
  by_cases hs : st.sz = true
  · rw [if_pos hs] at h1
    exact cset_refuseZ I hs (by omega)
  · rw [if_neg hs] at h1
    exact cset_refuseU I (Bool.eq_false_iff.mpr hs) (by omega)
theorem rset_refuse {w : World} {c : CL} {o : CO} {st : CS} {k v : Int} {t tv : Tok} (I : CI w c o st) (h1 : ¬ (0 ≤ (if st.sz then sizeOf v else 1) ∧ (if st.sz then sizeOf v else 1) ≤ st.room)) : RSpec w 6 200 [.ref c.x, .int k t, .int v tv] "ValueError" c o := by
  intro A s base g' outer R p loose mean mg mb K hG hN hz X' T' XB TB D hd hu hh hret
  have XS := X'.keeps hG
  refine' enterR ?k1 ?k2 ?kz ?k3 ?k4 ?k6 ?k7 ?k8 ?k9 ?kB ?_ ?c2 ?c3 ?c4 ?c5; (case k1 => assumption); (case k2 => assumption); (case kz => assumption); (case k3 => assumption); (case k4 => assumption); (case k6 => k_is); (case k7 => k_is); (case k8 => first | exact roomA hd | ((try simp only [depth_deeper, depth_in1] at *); omega)); (case k9 => first | exact BindsTo.of_eq rfl | exact binds_K (by k_in) rfl (by k_is) rfl rfl rfl); (case kB => exact locs rfl); (case c2 => exact rfl); (case c3 => exact rfl); (case c4 => exact rfl); (case c5 => decide); k_whole
  intro L' h₁ F' N' 
  have I0 := I
  obtain ⟨x, dx, ad, az, ai, ak, al⟩ := c
  obtain ⟨es, n, oD, oZ, oI, vs, nk, us, ns⟩ := o
  have od0 : OD ⟨x, dx, ad, az, ai, ak, al⟩ st es := I.od
  obtain ⟨nd, ⟨gD, gZ, gG, ⟨tC, gC⟩, ⟨tM, gM⟩, gF, gI, gK, n1, n2, n3, n4, n5, n6, n7, hes⟩, hD, hZ, hI, hK, lo1, lo2, lo3⟩ := I
  dsimp only [CL.led, CL.adr] at *
  have ⟨⟨x1, x2, x3, x4, x5, x6⟩, ⟨y1, y2, y3, y4, y5⟩, ⟨z1, z2, z3, z4⟩, ⟨w1, w2, w3⟩, ⟨v1, v2⟩, u1⟩ := nd7 nd
  k_steps
  rename Fr g' _ _ _ => kF
  rename News g' _ _ _ => kN
  refine RSpecH.use (cset_refuse I0 h1) K kF kN (Around.frames_deeper K.stack) rfl X' T' XB TB D (by first | exact roomD hd rfl | (simp only [depth_deeper, depth_in1]; omega)) (by first | exact roomU hu rfl | exact roomU1 hu rfl | (simp only [units_deeper, units_in1]; omega)) hh ?_
  intro hE tkE eE GE FE RE UE
  dsimp only
  refine leave_onSN K FE RE UE ?_
  intro hE2 RE2 _ UE2
  exact hret _ _ _ RE2 UE2
theorem sdef_refuse {w : World} {c : CL} {o : CO} {st : CS} {k v : Int} {t tv : Tok} (I : CI w c o st) (hk : kdfHas st.pairs k = false) (h1 : ¬ (0 ≤ (if st.sz then sizeOf v else 1) ∧ (if st.sz then sizeOf v else 1) ≤ st.room)) : RSpec w 10 131 [.ref c.x, .int k t, .int v tv] "ValueError" c o := by
  intro A s base g' outer R p loose mean mg mb K hG hN hz X' T' XB TB D hd hu hh hret
  have XS := X'.keeps hG
  refine' enterR ?k1 ?k2 ?kz ?k3 ?k4 ?k6 ?k7 ?k8 ?k9 ?kB ?_ ?c2 ?c3 ?c4 ?c5; (case k1 => assumption); (case k2 => assumption); (case kz => assumption); (case k3 => assumption); (case k4 => assumption); (case k6 => k_is); (case k7 => k_is); (case k8 => first | exact roomA hd | ((try simp only [depth_deeper, depth_in1] at *); omega)); (case k9 => first | exact BindsTo.of_eq rfl | exact binds_K (by k_in) rfl (by k_is) rfl rfl rfl); (case kB => exact locs rfl); (case c2 => exact rfl); (case c3 => exact rfl); (case c4 => exact rfl); (case c5 => decide); k_whole
  intro L' h₁ F' N' 
  have I0 := I
  obtain ⟨x, dx, ad, az, ai, ak, al⟩ := c
  obtain ⟨es, n, oD, oZ, oI, vs, nk, us, ns⟩ := o
  have od0 : OD ⟨x, dx, ad, az, ai, ak, al⟩ st es := I.od
  obtain ⟨nd, ⟨gD, gZ, gG, ⟨tC, gC⟩, ⟨tM, gM⟩, gF, gI, gK, n1, n2, n3, n4, n5, n6, n7, hes⟩, hD, hZ, hI, hK, lo1, lo2, lo3⟩ := I
  dsimp only [CL.led, CL.adr] at *
  have ⟨⟨x1, x2, x3, x4, x5, x6⟩, ⟨y1, y2, y3, y4, y5⟩, ⟨z1, z2, z3, z4⟩, ⟨w1, w2, w3⟩, ⟨v1, v2⟩, u1⟩ := nd7 nd
  k_steps
  refine (contains_spec I0).useX (r := []) (by assumption) (by assumption) (by assumption) (by assumption) (by first | exact roomD hd rfl | (simp only [depth_deeper, depth_in1]; omega)) (by first | exact roomU hu rfl | exact roomU1 hu rfl | (simp only [units_deeper, units_in1]; omega)) hh trivial (fun _ hp => nomatch hp) ?_
  intro h2 tk2 v2 o2 hPq F2 N2 M2 G2
  obtain ⟨rfl, rfl⟩ := hPq
  dsimp only [CL.led, CL.adr, List.cons_append, List.nil_append] at N2
  k_steps
  rename Fr g' _ _ _ => kF
  rename News g' _ _ _ => kN
  refine RSpecH.use (rset_refuse I0 h1) K kF kN (Around.frames_deeper K.stack) rfl X' T' XB TB D (by first | exact roomD hd rfl | (simp only [depth_deeper, depth_in1]; omega)) (by first | exact roomU hu rfl | exact roomU1 hu rfl | (simp only [units_deeper, units_in1]; omega)) hh ?_
  intro hE tkE eE GE FE RE UE
  dsimp only
  refine leave_onSN K FE RE UE ?_
  intro hE2 RE2 _ UE2
  exact hret _ _ _ RE2 UE2
theorem pop_miss {w : World} {c : CL} {o : CO} {st : CS} {k : Int} {t : Tok} (I : CI w c o st) (hk : kdfHas st.pairs k = false) : RSpec w 10 123 [.ref c.x, .int k t] "KeyError" c o := by
  intro A s base g' outer R p loose mean mg mb K hG hN hz X' T' XB TB D hd hu hh hret
  have XS := X'.keeps hG
  refine' enterR ?k1 ?k2 ?kz ?k3 ?k4 ?k6 ?k7 ?k8 ?k9 ?kB ?_ ?c2 ?c3 ?c4 ?c5; (case k1 => assumption); (case k2 => assumption); (case kz => assumption); (case k3 => assumption); (case k4 => assumption); (case k6 => k_is); (case k7 => k_is); (case k8 => first | exact roomA hd | ((try simp only [depth_deeper, depth_in1] at *); omega)); (case k9 => first | exact BindsTo.of_eq rfl | exact binds_K (by k_in) rfl (by k_is) rfl rfl rfl); (case kB => exact locs rfl); (case c2 => exact rfl); (case c3 => exact rfl); (case c4 => exact rfl); (case c5 => decide); k_whole
  intro L' h₁ F' N' 
  have I0 := I
  obtain ⟨x, dx, ad, az, ai, ak, al⟩ := c
  obtain ⟨es, n, oD, oZ, oI, vs, nk, us, ns⟩ := o
  have od0 : OD ⟨x, dx, ad, az, ai, ak, al⟩ st es := I.od
  obtain ⟨nd, ⟨gD, gZ, gG, ⟨tC, gC⟩, ⟨tM, gM⟩, gF, gI, gK, n1, n2, n3, n4, n5, n6, n7, hes⟩, hD, hZ, hI, hK, lo1, lo2, lo3⟩ := I
  dsimp only [CL.led, CL.adr] at *
  have ⟨⟨x1, x2, x3, x4, x5, x6⟩, ⟨y1, y2, y3, y4, y5⟩, ⟨z1, z2, z3, z4⟩, ⟨w1, w2, w3⟩, ⟨v1, v2⟩, u1⟩ := nd7 nd
  k_steps
  refine (contains_spec I0).useX (r := []) (by assumption) (by assumption) (by assumption) (by assumption) (by first | exact roomD hd rfl | (simp only [depth_deeper, depth_in1]; omega)) (by first | exact roomU hu rfl | exact roomU1 hu rfl | (simp only [units_deeper, units_in1]; omega)) hh trivial (fun _ hp => nomatch hp) ?_
  intro h2 tk2 v2 o2 hPq F2 N2 M2 G2
  obtain ⟨rfl, rfl⟩ := hPq
  dsimp only [CL.led, CL.adr, List.cons_append, List.nil_append] at N2
  k_steps
  try dsimp only
  rename Fr g' _ _ _ => kF
  rename News g' _ _ _ => kN
  first
    | (rename Heap.NewExc _ _ _ _ => hx; refine leave_first K (.of hx) kF kN ?_ rfl)
    | (rename ExcN _ _ _ _ => hx; refine leave_first K hx kF kN ?_ rfl)
  intro hE RE UE
  exact hret _ _ _ RE UE
end
section
theorem cdel_missZ {w : World} {c : CL} {o : CO} {st : CS} {k : Int} {t : Tok} (I : CI w c o st) (hs : st.sz = true) (hk : kdfHas st.pairs k = false) : RSpec w 4 79 [.ref c.x, .int k t] "KeyError" c o := by
  intro A s base g' outer R p loose mean mg mb K hG hN hz X' T' XB TB D hd hu hh hret
  have XS := X'.keeps hG
  refine' enterR ?k1 ?k2 ?kz ?k3 ?k4 ?k6 ?k7 ?k8 ?k9 ?kB ?_ ?c2 ?c3 ?c4 ?c5; (case k1 => assumption); (case k2 => assumption); (case kz => assumption); (case k3 => assumption); (case k4 => assumption); (case k6 => k_is); (case k7 => k_is); (case k8 => first | exact roomA hd | ((try simp only [depth_deeper, depth_in1] at *); omega)); (case k9 => first | exact BindsTo.of_eq rfl | exact binds_K (by k_in) rfl (by k_is) rfl rfl rfl); (case kB => exact locs rfl); (case c2 => exact rfl); (case c3 => exact rfl); (case c4 => exact rfl); (case c5 => decide); k_whole
  intro L' h₁ F' N' 
  obtain ⟨x, dx, ad, az, ai, ak, al⟩ := c
  obtain ⟨es, n, oD, oZ, oI, vs, nk, us, ns⟩ := o
  have od0 : OD ⟨x, dx, ad, az, ai, ak, al⟩ st es := I.od
  obtain ⟨nd, ⟨gD, gZ, gG, ⟨tC, gC⟩, ⟨tM, gM⟩, gF, gI, gK, n1, n2, n3, n4, n5, n6, n7, hes⟩, hD, hZ, hI, hK, lo1, lo2, lo3⟩ := I
  dsimp only [CL.led, CL.adr] at *
  have ⟨⟨x1, x2, x3, x4, x5, x6⟩, ⟨y1, y2, y3, y4, y5⟩, ⟨z1, z2, z3, z4⟩, ⟨w1, w2, w3⟩, ⟨v1, v2⟩, u1⟩ := nd7 nd
  rw [hs, if_pos rfl] at gZ
  have hZ' := hZ hs
  have hk' : kdfHas (st.pairs.map fun p => (p.1, sizeOf p.2)) k = false := (has_map _ _ _).trans hk
  k_steps
  try dsimp only
  rename Fr g' _ _ _ => kF
  rename News g' _ _ _ => kN
  first
    | (rename Heap.NewExc _ _ _ _ => hx; refine leave_first K (.of hx) kF kN ?_ rfl)
    | (rename ExcN _ _ _ _ => hx; refine leave_first K hx kF kN ?_ rfl)
  intro hE RE UE
  exact hret _ _ _ RE UE
theorem cdel_missU {w : World} {c : CL} {o : CO} {st : CS} {k : Int} {t : Tok} (I : CI w c o st) (hs : st.sz = false) (hk : kdfHas st.pairs k = false) : RSpec w 4 79 [.ref c.x, .int k t] "KeyError" c o := by
  intro A s base g' outer R p loose mean mg mb K hG hN hz X' T' XB TB D hd hu hh hret
  have XS := X'.keeps hG
  refine' enterR ?k1 ?k2 ?kz ?k3 ?k4 ?k6 ?k7 ?k8 ?k9 ?kB ?_ ?c2 ?c3 ?c4 ?c5; (case k1 => assumption); (case k2 => assumption); (case kz => assumption); (case k3 => assumption); (case k4 => assumption); (case k6 => k_is); (case k7 => k_is); (case k8 => first | exact roomA hd | ((try simp only [depth_deeper, depth_in1] at *); omega)); (case k9 => first | exact BindsTo.of_eq rfl | exact binds_K (by k_in) rfl (by k_is) rfl rfl rfl); (case kB => exact locs rfl); (case c2 => exact rfl); (case c3 => exact rfl); (case c4 => exact rfl); (case c5 => decide); k_whole
  intro L' h₁ F' N' 
  obtain ⟨x, dx, ad, az, ai, ak, al⟩ := c
  obtain ⟨es, n, oD, oZ, oI, vs, nk, us, ns⟩ := o
  have od0 : OD ⟨x, dx, ad, az, ai, ak, al⟩ st es := I.od
  obtain ⟨nd, ⟨gD, gZ, gG, ⟨tC, gC⟩, ⟨tM, gM⟩, gF, gI, gK, n1, n2, n3, n4, n5, n6, n7, hes⟩, hD, hZ, hI, hK, lo1, lo2, lo3⟩ := I
  dsimp only [CL.led, CL.adr] at *
  have ⟨⟨x1, x2, x3, x4, x5, x6⟩, ⟨y1, y2, y3, y4, y5⟩, ⟨z1, z2, z3, z4⟩, ⟨w1, w2, w3⟩, ⟨v1, v2⟩, u1⟩ := nd7 nd
  rw [hs] at gZ
  have gZ' : getL "_Cache__size" es = some none := gZ
  k_steps
  try dsimp only
  rename Fr g' _ _ _ => kF
  rename News g' _ _ _ => kN
  first
    | (rename Heap.NewExc _ _ _ _ => hx; refine leave_first K (.of hx) kF kN ?_ rfl)
    | (rename ExcN _ _ _ _ => hx; refine leave_first K hx kF kN ?_ rfl)
  intro hE RE UE
  exact hret _ _ _ RE UE
theorem cdel_miss {w : World} {c : CL} {o : CO} {st : CS} {k : Int} {t : Tok} (I : CI w c o st) (hk : kdfHas st.pairs k = false) : RSpec w 4 79 [.ref c.x, .int k t] "KeyError" c o := by
  by_cases hs : st.sz = true
  · exact cdel_missZ I hs hk
  · exact cdel_missU I (Bool.eq_false_iff.mpr hs) hk
theorem rdel_miss {w : World} {c : CL} {o : CO} {st : CS} {k : Int} {t : Tok} (I : CI w c o st) (hk : kdfHas st.pairs k = false) : RSpec w 6 208 [.ref c.x, .int k t] "KeyError" c o := by
  intro A s base g' outer R p loose mean mg mb K hG hN hz X' T' XB TB D hd hu hh hret
  have XS := X'.keeps hG
  refine' enterR ?k1 ?k2 ?kz ?k3 ?k4 ?k6 ?k7 ?k8 ?k9 ?kB ?_ ?c2 ?c3 ?c4 ?c5; (case k1 => assumption); (case k2 => assumption); (case kz => assumption); (case k3 => assumption); (case k4 => assumption); (case k6 => k_is); (case k7 => k_is); (case k8 => first | exact roomA hd | ((try simp only [depth_deeper, depth_in1] at *); omega)); (case k9 => first | exact BindsTo.of_eq rfl | exact binds_K (by k_in) rfl (by k_is) rfl rfl rfl); (case kB => exact locs rfl); (case c2 => exact rfl); (case c3 => exact rfl); (case c4 => exact rfl); (case c5 => decide); k_whole
  intro L' h₁ F' N' 
  have I0 := I
  obtain ⟨x, dx, ad, az, ai, ak, al⟩ := c
  obtain ⟨es, n, oD, oZ, oI, vs, nk, us, ns⟩ := o
  have od0 : OD ⟨x, dx, ad, az, ai, ak, al⟩ st es := I.od
  obtain ⟨nd, ⟨gD, gZ, gG, ⟨tC, gC⟩, ⟨tM, gM⟩, gF, gI, gK, n1, n2, n3, n4, n5, n6, n7, hes⟩, hD, hZ, hI, hK, lo1, lo2, lo3⟩ := I
  dsimp only [CL.led, CL.adr] at *
  have ⟨⟨x1, x2, x3, x4, x5, x6⟩, ⟨y1, y2, y3, y4, y5⟩, ⟨z1, z2, z3, z4⟩, ⟨w1, w2, w3⟩, ⟨v1, v2⟩, u1⟩ := nd7 nd
  k_steps
  rename Fr g' _ _ _ => kF
  rename News g' _ _ _ => kN
  refine RSpecH.use (cdel_miss I0 hk) K kF kN (Around.frames_deeper K.stack) rfl X' T' XB TB D (by first | exact roomD hd rfl | (simp only [depth_deeper, depth_in1]; omega)) (by first | exact roomU hu rfl | exact roomU1 hu rfl | (simp only [units_deeper, units_in1]; omega)) hh ?_
  intro hE tkE eE GE FE RE UE
  dsimp only
  refine leave_onSN K FE RE UE ?_
  intro hE2 RE2 _ UE2
  exact hret _ _ _ RE2 UE2
theorem popitem_empty {w : World} {c : CL} {o : CO} {st : CS} (I : CI w c o st) (hk : st.ks = []) : RSpec w 4 215 [.ref c.x] "KeyError" c o := by
  intro A s base g' outer R p loose mean mg mb K hG hN hz X' T' XB TB D hd hu hh hret
  have XS := X'.keeps hG
  refine' enterR ?k1 ?k2 ?kz ?k3 ?k4 ?k6 ?k7 ?k8 ?k9 ?kB ?_ ?c2 ?c3 ?c4 ?c5; (case k1 => assumption); (case k2 => assumption); (case kz => assumption); (case k3 => assumption); (case k4 => assumption); (case k6 => k_is); (case k7 => k_is); (case k8 => first | exact roomA hd | ((try simp only [depth_deeper, depth_in1] at *); omega)); (case k9 => first | exact BindsTo.of_eq rfl | exact binds_K (by k_in) rfl (by k_is) rfl rfl rfl); (case kB => exact locs rfl); (case c2 => exact rfl); (case c3 => exact rfl); (case c4 => exact rfl); (case c5 => decide); k_whole
  intro L' h₁ F' N' 
  obtain ⟨x, dx, ad, az, ai, ak, al⟩ := c
  obtain ⟨es, n, oD, oZ, oI, vs, nk, us, ns⟩ := o
  have od0 : OD ⟨x, dx, ad, az, ai, ak, al⟩ st es := I.od
  obtain ⟨nd, ⟨gD, gZ, gG, ⟨tC, gC⟩, ⟨tM, gM⟩, gF, gI, gK, n1, n2, n3, n4, n5, n6, n7, hes⟩, hD, hZ, hI, hK, lo1, lo2, lo3⟩ := I
  dsimp only [CL.led, CL.adr] at *
  have ⟨⟨x1, x2, x3, x4, x5, x6⟩, ⟨y1, y2, y3, y4, y5⟩, ⟨z1, z2, z3, z4⟩, ⟨w1, w2, w3⟩, ⟨v1, v2⟩, u1⟩ := nd7 nd
  rw [hk] at hK
  have hs0 : ([] : List Int).length ≤ 1000 := by decide
  k_steps
  refine Raise_none hh ?_
  k_steps
  try dsimp only
  rename Fr g' _ _ _ => kF
  rename News g' _ _ _ => kN
  first
    | (rename Heap.NewExc _ _ _ _ => hx; refine leave_first K (.of hx) kF kN ?_ rfl)
    | (rename ExcN _ _ _ _ => hx; refine leave_first K hx kF kN ?_ rfl)
  intro hE RE UE
  exact hret _ _ _ RE UE
end
section
theorem missing_spec {w : World} {c : CL} {o : CO} {k : Int} {t : Tok} {e1 : Addr} {oe : Obj} {vs1 : Array Value} (hdv : oe.data = .fields vs1) (hv2 : vs1[2]? = some .none) : RSpecH (· = some (.ref e1)) w 2 93 [.ref c.x, .int k t] "KeyError" ((e1, oe) :: c.led o) := by
  intro A s base g' outer R p loose mean mg mb K hG hN hz X' T' XB TB D hd hu hh hret
  have XS := X'.keeps hG
  refine' enterR ?k1 ?k2 ?kz ?k3 ?k4 ?k6 ?k7 ?k8 ?k9 ?kB ?_ ?c2 ?c3 ?c4 ?c5; (case k1 => assumption); (case k2 => assumption); (case kz => assumption); (case k3 => assumption); (case k4 => assumption); (case k6 => k_is); (case k7 => k_is); (case k8 => first | exact roomA hd | ((try simp only [depth_deeper, depth_in1] at *); omega)); (case k9 => first | exact BindsTo.of_eq rfl | exact binds_K (by k_in) rfl (by k_is) rfl rfl rfl); (case kB => exact locs rfl); (case c2 => exact rfl); (case c3 => exact rfl); (case c4 => exact rfl); (case c5 => decide); k_whole
  intro L' h₁ F' N' 
  walk1
  walk1
  refine Raise_held (b := e1) (ob₁ := oe) (vs₁ := vs1) hh hdv hv2 ?_
  walk1
  walk1
  walk1
  walk1
  walk1
  walk1
  rename Fr g' _ _ _ => kF
  rename News g' _ _ _ => kN
  refine call_exc_raiseB (b := e1) (ob₁ := oe) excClass_KeyError (kN _ (.head _)).1 ?_ (by rw [sizeLine_eq]; exact Nat.le_of_ble_eq_true rfl)
  intro h2 e2 hx
  refine leave_first K hx kF kN ?_ rfl
  intro hE RE UE
  exact hret _ _ _ RE UE
theorem getitem_miss {w : World} {c : CL} {o : CO} {st : CS} {k : Int} {t : Tok} (I : CI w c o st) (hk : kdfHas st.pairs k = false) : RSpec w 8 65 [.ref c.x, .int k t] "KeyError" c o := by
  intro A s base g' outer R p loose mean mg mb K hG hN hz X' T' XB TB D hd hu hh hret
  have XS := X'.keeps hG
  refine' enterR ?k1 ?k2 ?kz ?k3 ?k4 ?k6 ?k7 ?k8 ?k9 ?kB ?_ ?c2 ?c3 ?c4 ?c5; (case k1 => assumption); (case k2 => assumption); (case kz => assumption); (case k3 => assumption); (case k4 => assumption); (case k6 => k_is); (case k7 => k_is); (case k8 => first | exact roomA hd | ((try simp only [depth_deeper, depth_in1] at *); omega)); (case k9 => first | exact BindsTo.of_eq rfl | exact binds_K (by k_in) rfl (by k_is) rfl rfl rfl); (case kB => exact locs rfl); (case c2 => exact rfl); (case c3 => exact rfl); (case c4 => exact rfl); (case c5 => decide); k_whole
  intro L' h₁ F' N' 
  obtain ⟨x, dx, ad, az, ai, ak, al⟩ := c
  obtain ⟨es, n, oD, oZ, oI, vs, nk, us, ns⟩ := o
  have od0 : OD ⟨x, dx, ad, az, ai, ak, al⟩ st es := I.od
  obtain ⟨nd, ⟨gD, gZ, gG, ⟨tC, gC⟩, ⟨tM, gM⟩, gF, gI, gK, n1, n2, n3, n4, n5, n6, n7, hes⟩, hD, hZ, hI, hK, lo1, lo2, lo3⟩ := I
  dsimp only [CL.led, CL.adr] at *
  have ⟨⟨x1, x2, x3, x4, x5, x6⟩, ⟨y1, y2, y3, y4, y5⟩, ⟨z1, z2, z3, z4⟩, ⟨w1, w2, w3⟩, ⟨v1, v2⟩, u1⟩ := nd7 nd
  k_steps
  rename Fr g' _ _ _ => kF
  rename News g' _ _ _ => kN
  rename Heap.NewExc _ _ _ _ => hx
  refine' catch_here (T' := "KeyError") K kF kN hx XB TB D ?ex PyProof.Rows.Boot.«KeyError» ?hn kr_isExc_KeyError kr_notTuple_KeyError ?hs ?k rfl rfl ?hd ?hE
  case ex => k_is
  case hn => decide
  case hs => kts_sub
  case hd => decide
  case hE => passes_own
  intro hc gc oe vsx TT Fc Nc hdv hv2 Kc Xc Pc Dc
  k_steps
  rename Fr gc _ _ _ => kF2
  rename News gc _ _ _ => kN2
  refine RSpecH.use (missing_spec (c := ⟨x, dx, ad, az, ai, ak, al⟩) (o := ⟨es, n, oD, oZ, oI, vs, nk, us, ns⟩) hdv hv2) Kc kF2 kN2 (Around.frames_deeper Kc.stack) rfl Xc Pc XB TB Dc (show A.depth + 1 + 2 < _ by omega) (show A.units + 3 + 20 * 2 < _ by omega) rfl ?_
  intro hE tkE eE GE FE RE UE
  dsimp only
  refine leave_onSN Kc FE RE UE ?_
  intro hE2 RE2 _ UE2
  exact hret _ _ _ (raised_turn TT (raised_sub RE2 fun q hq => .tail _ hq)) ((turn_slots TT).trans UE2)
end
section
theorem due_keep {sz : Bool} {room : Int} {nums : List Int} {pairs : List (Int × Int)} {shown : List (List Int)} {key value : Int} (d : Int) (hk : kdfHas pairs key = true) (hd : d = 2 ∨ d = 4 ∨ d = 6) : dueL sz room nums pairs shown d key value = (.list [.int (kdfLook pairs key 0)], pairs, shown) := by
  unfold dueL
  rw [if_neg (by rw [hk]; rcases hd with h | h | h <;> subst h <;> simp), if_neg (by omega), if_neg (by omega), if_neg (by omega), if_neg (by rw [hk]; simp), if_neg (by omega)]
theorem deed_get {w : World} {c : CL} {o : CO} {st : CS} {nums : List Int} {Ch : Heap → Prop} {key value : Int} {td tk tv : Tok} {sh₀ : List (List Int)} (I : CI w c o st) (W : WfK (st.pairs.map (·.1)) st.ks st.ix) (hk : kdfHas st.pairs key = true) :
    DSpec w [.ref c.x, .int 2 td, .int key tk, .int value tv] c o Ch (DPost w c nums st sh₀ o.us 2 key value) := by
  intro A₀ s base L a m cn cs ccd R p loose mean mg mb B F N XB TB hck hd hu hh hpre hret
  refine' enterD ?k1 ?k2 ?kN ?kc ?k3 ?k4 ?k6 ?k7 ?k8 ?k9 ?kB ?_ ?c2 ?c3 ?c4 ?c5; (case k1 => assumption); (case k2 => assumption); (case kN => assumption); (case kc => assumption); (case k3 => assumption); (case k4 => assumption); (case k6 => k_is); (case k7 => k_is); (case k8 => first | exact roomA hd | ((try simp only [depth_deeper, depth_in1] at *); omega)); (case k9 => first | exact BindsTo.of_eq rfl | exact binds_K (by k_in) rfl (by k_is) rfl rfl rfl); (case kB => exact locs rfl); (case c2 => exact rfl); (case c3 => exact rfl); (case c4 => exact rfl); (case c5 => decide); k_whole
  intro g' L' h₁ FG F' N' K X' T' D hg
  have I0 := I
  obtain ⟨x, dx, ad, az, ai, ak, al⟩ := c
  obtain ⟨es, n, oD, oZ, oI, vs, nk, us, ns⟩ := o
  have od0 : OD ⟨x, dx, ad, az, ai, ak, al⟩ st es := I.od
  obtain ⟨nd, ⟨gD, gZ, gG, ⟨tC, gC⟩, ⟨tM, gM⟩, gF, gI, gK, n1, n2, n3, n4, n5, n6, n7, hes⟩, hD, hZ, hI, hK, lo1, lo2, lo3⟩ := I
  dsimp only [CL.led, CL.adr] at *
  have ⟨⟨x1, x2, x3, x4, x5, x6⟩, ⟨y1, y2, y3, y4, y5⟩, ⟨z1, z2, z3, z4⟩, ⟨w1, w2, w3⟩, ⟨v1, v2⟩, u1⟩ := nd7 nd
  k_steps
  refine (getitem_spec I0 hk).useX (r := []) (by assumption) (by assumption) (by assumption) (by assumption) (by first | exact roomD hd rfl | (simp only [depth_deeper, depth_in1]; omega)) (by first | exact roomU hu rfl | exact roomU1 hu rfl | (simp only [units_deeper, units_in1]; omega)) hh trivial (fun _ hp => nomatch hp) ?_
  intro h3 tk3 v3 o3 hPq F3 N3 M3 G3
  obtain ⟨⟨t3, rfl⟩, rfl⟩ := hPq
  k_steps
  try dsimp only
  rename Fr g' _ _ _ => kF
  rename News g' _ _ _ => kN
  obtain ⟨q1, q2, q3⟩ := backD (cn := cn) (cs := cs) (a := a) (ccd := ccd) FG KtsTurn.refl kF (newsL kN) hg
  have hfr := fresh_of hg kN (.head _) (adr_off (c := ⟨x, dx, ad, az, ai, ak, al⟩) (by first | assumption | exact ltAll (by assumption)))
  exact hret _ _ _ _ (DPost.same I0 W (due_keep 2 hk (.inl rfl)) (.list (.head _) (.cons (.int _ _) .nil)) (fun q hq => by rw [List.mem_singleton.mp hq]; exact ⟨hfr, (kN _ (.head _)).1⟩)) q1 q2 q3
end
section
theorem deed_get0 {w : World} {c : CL} {o : CO} {st : CS} {nums : List Int} {Ch : Heap → Prop} {key value : Int} {td tk tv : Tok} {sh₀ : List (List Int)} (I : CI w c o st) (W : WfK (st.pairs.map (·.1)) st.ks st.ix) (hk : kdfHas st.pairs key = false) :
    DSpec w [.ref c.x, .int 2 td, .int key tk, .int value tv] c o Ch (DPost w c nums st sh₀ o.us 2 key value) := by
  intro A₀ s base L a m cn cs ccd R p loose mean mg mb B F N XB TB hck hd hu hh hpre hret
  refine' enterD ?k1 ?k2 ?kN ?kc ?k3 ?k4 ?k6 ?k7 ?k8 ?k9 ?kB ?_ ?c2 ?c3 ?c4 ?c5; (case k1 => assumption); (case k2 => assumption); (case kN => assumption); (case kc => assumption); (case k3 => assumption); (case k4 => assumption); (case k6 => k_is); (case k7 => k_is); (case k8 => first | exact roomA hd | ((try simp only [depth_deeper, depth_in1] at *); omega)); (case k9 => first | exact BindsTo.of_eq rfl | exact binds_K (by k_in) rfl (by k_is) rfl rfl rfl); (case kB => exact locs rfl); (case c2 => exact rfl); (case c3 => exact rfl); (case c4 => exact rfl); (case c5 => decide); k_whole
  intro g' L' h₁ FG F' N' K X' T' D hg
  have I0 := I
  obtain ⟨x, dx, ad, az, ai, ak, al⟩ := c
  obtain ⟨es, n, oD, oZ, oI, vs, nk, us, ns⟩ := o
  have od0 : OD ⟨x, dx, ad, az, ai, ak, al⟩ st es := I.od
  obtain ⟨nd, ⟨gD, gZ, gG, ⟨tC, gC⟩, ⟨tM, gM⟩, gF, gI, gK, n1, n2, n3, n4, n5, n6, n7, hes⟩, hD, hZ, hI, hK, lo1, lo2, lo3⟩ := I
  dsimp only [CL.led, CL.adr] at *
  have ⟨⟨x1, x2, x3, x4, x5, x6⟩, ⟨y1, y2, y3, y4, y5⟩, ⟨z1, z2, z3, z4⟩, ⟨w1, w2, w3⟩, ⟨v1, v2⟩, u1⟩ := nd7 nd
  k_steps
  rename Fr g' _ _ _ => kF
  rename News g' _ _ _ => kN
  refine RSpecH.use (getitem_miss I0 hk) K kF kN (Around.frames_deeper K.stack) rfl X' T' XB TB D (by first | exact roomD hd rfl | (simp only [depth_deeper, depth_in1]; omega)) (by first | exact roomU hu rfl | exact roomU1 hu rfl | (simp only [units_deeper, units_in1]; omega)) hh ?_
  intro hE tkE eE GE FE RE UE
  dsimp only
  k_steps
  try dsimp only
  rename KtsTurn _ _ _ => kT
  rename Fr _ L' _ _ => kF
  rename News _ L' _ _ => kN
  rename _ < _ ∧ _ < _ ∧ _ => ll
  obtain ⟨q1, q2, q3⟩ := backD FG kT kF (news17 kN) hg
  have hfr := fresh_g hg (fresh_t kT (kN _ (.head _)).2.2) (off7 ll)
  exact hret _ _ _ _ (DPost.same I0 W (due_off hk (.inl rfl)) (.list (.head _) (.cons (.str _ _) .nil)) (fun q hq => by rw [List.mem_singleton.mp hq]; exact ⟨hfr, (kN _ (.head _)).1⟩)) q1 q2 q3
theorem deed_ask {w : World} {c : CL} {o : CO} {st : CS} {nums : List Int} {Ch : Heap → Prop} {key value : Int} {td tk tv : Tok} {sh₀ : List (List Int)} (I : CI w c o st) (W : WfK (st.pairs.map (·.1)) st.ks st.ix)  :
    DSpec w [.ref c.x, .int 3 td, .int key tk, .int value tv] c o Ch (DPost w c nums st sh₀ o.us 3 key value) := by
  intro A₀ s base L a m cn cs ccd R p loose mean mg mb B F N XB TB hck hd hu hh hpre hret
  refine' enterD ?k1 ?k2 ?kN ?kc ?k3 ?k4 ?k6 ?k7 ?k8 ?k9 ?kB ?_ ?c2 ?c3 ?c4 ?c5; (case k1 => assumption); (case k2 => assumption); (case kN => assumption); (case kc => assumption); (case k3 => assumption); (case k4 => assumption); (case k6 => k_is); (case k7 => k_is); (case k8 => first | exact roomA hd | ((try simp only [depth_deeper, depth_in1] at *); omega)); (case k9 => first | exact BindsTo.of_eq rfl | exact binds_K (by k_in) rfl (by k_is) rfl rfl rfl); (case kB => exact locs rfl); (case c2 => exact rfl); (case c3 => exact rfl); (case c4 => exact rfl); (case c5 => decide); k_whole
  intro g' L' h₁ FG F' N' K X' T' D hg
  have I0 := I
  obtain ⟨x, dx, ad, az, ai, ak, al⟩ := c
  obtain ⟨es, n, oD, oZ, oI, vs, nk, us, ns⟩ := o
  have od0 : OD ⟨x, dx, ad, az, ai, ak, al⟩ st es := I.od
  obtain ⟨nd, ⟨gD, gZ, gG, ⟨tC, gC⟩, ⟨tM, gM⟩, gF, gI, gK, n1, n2, n3, n4, n5, n6, n7, hes⟩, hD, hZ, hI, hK, lo1, lo2, lo3⟩ := I
  dsimp only [CL.led, CL.adr] at *
  have ⟨⟨x1, x2, x3, x4, x5, x6⟩, ⟨y1, y2, y3, y4, y5⟩, ⟨z1, z2, z3, z4⟩, ⟨w1, w2, w3⟩, ⟨v1, v2⟩, u1⟩ := nd7 nd
  k_steps
  refine (contains_spec I0).useX (r := []) (by assumption) (by assumption) (by assumption) (by assumption) (by first | exact roomD hd rfl | (simp only [depth_deeper, depth_in1]; omega)) (by first | exact roomU hu rfl | exact roomU1 hu rfl | (simp only [units_deeper, units_in1]; omega)) hh trivial (fun _ hp => nomatch hp) ?_
  intro h3 tk3 v3 o3 hPq F3 N3 M3 G3
  obtain ⟨rfl, rfl⟩ := hPq
  k_steps
  try dsimp only
  rename Fr g' _ _ _ => kF
  rename News g' _ _ _ => kN
  obtain ⟨q1, q2, q3⟩ := backD (cn := cn) (cs := cs) (a := a) (ccd := ccd) FG KtsTurn.refl kF (newsL kN) hg
  have hfr := fresh_of hg kN (.head _) (adr_off (c := ⟨x, dx, ad, az, ai, ak, al⟩) (by first | assumption | exact ltAll (by assumption)))
  exact hret _ _ _ _ (DPost.same I0 W (due_ask) (.list (.head _) (.cons (.bool _) .nil)) (fun q hq => by rw [List.mem_singleton.mp hq]; exact ⟨hfr, (kN _ (.head _)).1⟩)) q1 q2 q3
theorem deed_cget {w : World} {c : CL} {o : CO} {st : CS} {nums : List Int} {Ch : Heap → Prop} {key value : Int} {td tk tv : Tok} {sh₀ : List (List Int)} (I : CI w c o st) (W : WfK (st.pairs.map (·.1)) st.ks st.ix) (hk : kdfHas st.pairs key = true) :
    DSpec w [.ref c.x, .int 4 td, .int key tk, .int value tv] c o Ch (DPost w c nums st sh₀ o.us 4 key value) := by
  intro A₀ s base L a m cn cs ccd R p loose mean mg mb B F N XB TB hck hd hu hh hpre hret
  refine' enterD ?k1 ?k2 ?kN ?kc ?k3 ?k4 ?k6 ?k7 ?k8 ?k9 ?kB ?_ ?c2 ?c3 ?c4 ?c5; (case k1 => assumption); (case k2 => assumption); (case kN => assumption); (case kc => assumption); (case k3 => assumption); (case k4 => assumption); (case k6 => k_is); (case k7 => k_is); (case k8 => first | exact roomA hd | ((try simp only [depth_deeper, depth_in1] at *); omega)); (case k9 => first | exact BindsTo.of_eq rfl | exact binds_K (by k_in) rfl (by k_is) rfl rfl rfl); (case kB => exact locs rfl); (case c2 => exact rfl); (case c3 => exact rfl); (case c4 => exact rfl); (case c5 => decide); k_whole
  intro g' L' h₁ FG F' N' K X' T' D hg
  have I0 := I
  obtain ⟨x, dx, ad, az, ai, ak, al⟩ := c
  obtain ⟨es, n, oD, oZ, oI, vs, nk, us, ns⟩ := o
  have od0 : OD ⟨x, dx, ad, az, ai, ak, al⟩ st es := I.od
  obtain ⟨nd, ⟨gD, gZ, gG, ⟨tC, gC⟩, ⟨tM, gM⟩, gF, gI, gK, n1, n2, n3, n4, n5, n6, n7, hes⟩, hD, hZ, hI, hK, lo1, lo2, lo3⟩ := I
  dsimp only [CL.led, CL.adr] at *
  have ⟨⟨x1, x2, x3, x4, x5, x6⟩, ⟨y1, y2, y3, y4, y5⟩, ⟨z1, z2, z3, z4⟩, ⟨w1, w2, w3⟩, ⟨v1, v2⟩, u1⟩ := nd7 nd
  k_steps
  refine (get_in I0 hk).useX (r := []) (by assumption) (by assumption) (by assumption) (by assumption) (by first | exact roomD hd rfl | (simp only [depth_deeper, depth_in1]; omega)) (by first | exact roomU hu rfl | exact roomU1 hu rfl | (simp only [units_deeper, units_in1]; omega)) hh trivial (fun _ hp => nomatch hp) ?_
  intro h3 tk3 v3 o3 hPq F3 N3 M3 G3
  obtain ⟨⟨t3, rfl⟩, rfl⟩ := hPq
  k_steps
  try dsimp only
  rename Fr g' _ _ _ => kF
  rename News g' _ _ _ => kN
  obtain ⟨q1, q2, q3⟩ := backD (cn := cn) (cs := cs) (a := a) (ccd := ccd) FG KtsTurn.refl kF (newsL kN) hg
  have hfr := fresh_of hg kN (.head _) (adr_off (c := ⟨x, dx, ad, az, ai, ak, al⟩) (by first | assumption | exact ltAll (by assumption)))
  exact hret _ _ _ _ (DPost.same I0 W (due_keep 4 hk (.inr (.inl rfl))) (.list (.head _) (.cons (.int _ _) .nil)) (fun q hq => by rw [List.mem_singleton.mp hq]; exact ⟨hfr, (kN _ (.head _)).1⟩)) q1 q2 q3
theorem deed_cget0 {w : World} {c : CL} {o : CO} {st : CS} {nums : List Int} {Ch : Heap → Prop} {key value : Int} {td tk tv : Tok} {sh₀ : List (List Int)} (I : CI w c o st) (W : WfK (st.pairs.map (·.1)) st.ks st.ix) (hk : kdfHas st.pairs key = false) :
    DSpec w [.ref c.x, .int 4 td, .int key tk, .int value tv] c o Ch (DPost w c nums st sh₀ o.us 4 key value) := by
  intro A₀ s base L a m cn cs ccd R p loose mean mg mb B F N XB TB hck hd hu hh hpre hret
  refine' enterD ?k1 ?k2 ?kN ?kc ?k3 ?k4 ?k6 ?k7 ?k8 ?k9 ?kB ?_ ?c2 ?c3 ?c4 ?c5; (case k1 => assumption); (case k2 => assumption); (case kN => assumption); (case kc => assumption); (case k3 => assumption); (case k4 => assumption); (case k6 => k_is); (case k7 => k_is); (case k8 => first | exact roomA hd | ((try simp only [depth_deeper, depth_in1] at *); omega)); (case k9 => first | exact BindsTo.of_eq rfl | exact binds_K (by k_in) rfl (by k_is) rfl rfl rfl); (case kB => exact locs rfl); (case c2 => exact rfl); (case c3 => exact rfl); (case c4 => exact rfl); (case c5 => decide); k_whole
  intro g' L' h₁ FG F' N' K X' T' D hg
  have I0 := I
  obtain ⟨x, dx, ad, az, ai, ak, al⟩ := c
  obtain ⟨es, n, oD, oZ, oI, vs, nk, us, ns⟩ := o
  have od0 : OD ⟨x, dx, ad, az, ai, ak, al⟩ st es := I.od
  obtain ⟨nd, ⟨gD, gZ, gG, ⟨tC, gC⟩, ⟨tM, gM⟩, gF, gI, gK, n1, n2, n3, n4, n5, n6, n7, hes⟩, hD, hZ, hI, hK, lo1, lo2, lo3⟩ := I
  dsimp only [CL.led, CL.adr] at *
  have ⟨⟨x1, x2, x3, x4, x5, x6⟩, ⟨y1, y2, y3, y4, y5⟩, ⟨z1, z2, z3, z4⟩, ⟨w1, w2, w3⟩, ⟨v1, v2⟩, u1⟩ := nd7 nd
  k_steps
  refine (get_off I0 hk).useX (r := []) (by assumption) (by assumption) (by assumption) (by assumption) (by first | exact roomD hd rfl | (simp only [depth_deeper, depth_in1]; omega)) (by first | exact roomU hu rfl | exact roomU1 hu rfl | (simp only [units_deeper, units_in1]; omega)) hh trivial (fun _ hp => nomatch hp) ?_
  intro h3 tk3 v3 o3 hPq F3 N3 M3 G3
  obtain ⟨⟨t3, rfl⟩, rfl⟩ := hPq
  k_steps
  try dsimp only
  rename Fr g' _ _ _ => kF
  rename News g' _ _ _ => kN
  obtain ⟨q1, q2, q3⟩ := backD (cn := cn) (cs := cs) (a := a) (ccd := ccd) FG KtsTurn.refl kF (newsL kN) hg
  have hfr := fresh_of hg kN (.head _) (adr_off (c := ⟨x, dx, ad, az, ai, ak, al⟩) (by first | assumption | exact ltAll (by assumption)))
  exact hret _ _ _ _ (DPost.same I0 W (due_off hk (.inr (.inl rfl))) (.list (.head _) (.cons (.int _ _) .nil)) (fun q hq => by rw [List.mem_singleton.mp hq]; exact ⟨hfr, (kN _ (.head _)).1⟩)) q1 q2 q3
theorem deed_pop0 {w : World} {c : CL} {o : CO} {st : CS} {nums : List Int} {Ch : Heap → Prop} {key value : Int} {td tk tv : Tok} {sh₀ : List (List Int)} (I : CI w c o st) (W : WfK (st.pairs.map (·.1)) st.ks st.ix) (hk : kdfHas st.pairs key = false) :
    DSpec w [.ref c.x, .int 5 td, .int key tk, .int value tv] c o Ch (DPost w c nums st sh₀ o.us 5 key value) := by
  intro A₀ s base L a m cn cs ccd R p loose mean mg mb B F N XB TB hck hd hu hh hpre hret
  refine' enterD ?k1 ?k2 ?kN ?kc ?k3 ?k4 ?k6 ?k7 ?k8 ?k9 ?kB ?_ ?c2 ?c3 ?c4 ?c5; (case k1 => assumption); (case k2 => assumption); (case kN => assumption); (case kc => assumption); (case k3 => assumption); (case k4 => assumption); (case k6 => k_is); (case k7 => k_is); (case k8 => first | exact roomA hd | ((try simp only [depth_deeper, depth_in1] at *); omega)); (case k9 => first | exact BindsTo.of_eq rfl | exact binds_K (by k_in) rfl (by k_is) rfl rfl rfl); (case kB => exact locs rfl); (case c2 => exact rfl); (case c3 => exact rfl); (case c4 => exact rfl); (case c5 => decide); k_whole
  intro g' L' h₁ FG F' N' K X' T' D hg
  have I0 := I
  obtain ⟨x, dx, ad, az, ai, ak, al⟩ := c
  obtain ⟨es, n, oD, oZ, oI, vs, nk, us, ns⟩ := o
  have od0 : OD ⟨x, dx, ad, az, ai, ak, al⟩ st es := I.od
  obtain ⟨nd, ⟨gD, gZ, gG, ⟨tC, gC⟩, ⟨tM, gM⟩, gF, gI, gK, n1, n2, n3, n4, n5, n6, n7, hes⟩, hD, hZ, hI, hK, lo1, lo2, lo3⟩ := I
  dsimp only [CL.led, CL.adr] at *
  have ⟨⟨x1, x2, x3, x4, x5, x6⟩, ⟨y1, y2, y3, y4, y5⟩, ⟨z1, z2, z3, z4⟩, ⟨w1, w2, w3⟩, ⟨v1, v2⟩, u1⟩ := nd7 nd
  k_steps
  refine (pop_off I0 hk).useX (r := []) (by assumption) (by assumption) (by assumption) (by assumption) (by first | exact roomD hd rfl | (simp only [depth_deeper, depth_in1]; omega)) (by first | exact roomU hu rfl | exact roomU1 hu rfl | (simp only [units_deeper, units_in1]; omega)) hh trivial (fun _ hp => nomatch hp) ?_
  intro h3 tk3 v3 o3 hPq F3 N3 M3 G3
  obtain ⟨⟨t3, rfl⟩, rfl⟩ := hPq
  k_steps
  try dsimp only
  rename Fr g' _ _ _ => kF
  rename News g' _ _ _ => kN
  obtain ⟨q1, q2, q3⟩ := backD (cn := cn) (cs := cs) (a := a) (ccd := ccd) FG KtsTurn.refl kF (newsL kN) hg
  have hfr := fresh_of hg kN (.head _) (adr_off (c := ⟨x, dx, ad, az, ai, ak, al⟩) (by first | assumption | exact ltAll (by assumption)))
  exact hret _ _ _ _ (DPost.same I0 W (due_off hk (.inr (.inr (.inl rfl)))) (.list (.head _) (.cons (.int _ _) .nil)) (fun q hq => by rw [List.mem_singleton.mp hq]; exact ⟨hfr, (kN _ (.head _)).1⟩)) q1 q2 q3
theorem deed_sdef {w : World} {c : CL} {o : CO} {st : CS} {nums : List Int} {Ch : Heap → Prop} {key value : Int} {td tk tv : Tok} {sh₀ : List (List Int)} (I : CI w c o st) (W : WfK (st.pairs.map (·.1)) st.ks st.ix) (hk : kdfHas st.pairs key = true) :
    DSpec w [.ref c.x, .int 6 td, .int key tk, .int value tv] c o Ch (DPost w c nums st sh₀ o.us 6 key value) := by
  intro A₀ s base L a m cn cs ccd R p loose mean mg mb B F N XB TB hck hd hu hh hpre hret
  refine' enterD ?k1 ?k2 ?kN ?kc ?k3 ?k4 ?k6 ?k7 ?k8 ?k9 ?kB ?_ ?c2 ?c3 ?c4 ?c5; (case k1 => assumption); (case k2 => assumption); (case kN => assumption); (case kc => assumption); (case k3 => assumption); (case k4 => assumption); (case k6 => k_is); (case k7 => k_is); (case k8 => first | exact roomA hd | ((try simp only [depth_deeper, depth_in1] at *); omega)); (case k9 => first | exact BindsTo.of_eq rfl | exact binds_K (by k_in) rfl (by k_is) rfl rfl rfl); (case kB => exact locs rfl); (case c2 => exact rfl); (case c3 => exact rfl); (case c4 => exact rfl); (case c5 => decide); k_whole
  intro g' L' h₁ FG F' N' K X' T' D hg
  have I0 := I
  obtain ⟨x, dx, ad, az, ai, ak, al⟩ := c
  obtain ⟨es, n, oD, oZ, oI, vs, nk, us, ns⟩ := o
  have od0 : OD ⟨x, dx, ad, az, ai, ak, al⟩ st es := I.od
  obtain ⟨nd, ⟨gD, gZ, gG, ⟨tC, gC⟩, ⟨tM, gM⟩, gF, gI, gK, n1, n2, n3, n4, n5, n6, n7, hes⟩, hD, hZ, hI, hK, lo1, lo2, lo3⟩ := I
  dsimp only [CL.led, CL.adr] at *
  have ⟨⟨x1, x2, x3, x4, x5, x6⟩, ⟨y1, y2, y3, y4, y5⟩, ⟨z1, z2, z3, z4⟩, ⟨w1, w2, w3⟩, ⟨v1, v2⟩, u1⟩ := nd7 nd
  k_steps
  refine (sdef_in I0 hk).useX (r := []) (by assumption) (by assumption) (by assumption) (by assumption) (by first | exact roomD hd rfl | (simp only [depth_deeper, depth_in1]; omega)) (by first | exact roomU hu rfl | exact roomU1 hu rfl | (simp only [units_deeper, units_in1]; omega)) hh trivial (fun _ hp => nomatch hp) ?_
  intro h3 tk3 v3 o3 hPq F3 N3 M3 G3
  obtain ⟨⟨t3, rfl⟩, rfl⟩ := hPq
  k_steps
  try dsimp only
  rename Fr g' _ _ _ => kF
  rename News g' _ _ _ => kN
  obtain ⟨q1, q2, q3⟩ := backD (cn := cn) (cs := cs) (a := a) (ccd := ccd) FG KtsTurn.refl kF (newsL kN) hg
  have hfr := fresh_of hg kN (.head _) (adr_off (c := ⟨x, dx, ad, az, ai, ak, al⟩) (by first | assumption | exact ltAll (by assumption)))
  exact hret _ _ _ _ (DPost.same I0 W (due_keep 6 hk (.inr (.inr rfl))) (.list (.head _) (.cons (.int _ _) .nil)) (fun q hq => by rw [List.mem_singleton.mp hq]; exact ⟨hfr, (kN _ (.head _)).1⟩)) q1 q2 q3
end
section
theorem deed_pop {w : World} {c : CL} {o : CO} {st : CS} {nums : List Int} {Ch : Heap → Prop} {key value : Int} {td tk tv : Tok} {sh₀ : List (List Int)} (I : CI w c o st) (W : WfK (st.pairs.map (·.1)) st.ks st.ix) (hk : kdfHas st.pairs key = true) (hc5 : st.pairs.length ≤ 5) :
    DSpec w [.ref c.x, .int 5 td, .int key tk, .int value tv] c o Ch (DPost w c nums st sh₀ o.us 5 key value) := by
  intro A₀ s base L a m cn cs ccd R p loose mean mg mb B F N XB TB hck hd hu hh hpre hret
  refine' enterD ?k1 ?k2 ?kN ?kc ?k3 ?k4 ?k6 ?k7 ?k8 ?k9 ?kB ?_ ?c2 ?c3 ?c4 ?c5; (case k1 => assumption); (case k2 => assumption); (case kN => assumption); (case kc => assumption); (case k3 => assumption); (case k4 => assumption); (case k6 => k_is); (case k7 => k_is); (case k8 => first | exact roomA hd | ((try simp only [depth_deeper, depth_in1] at *); omega)); (case k9 => first | exact BindsTo.of_eq rfl | exact binds_K (by k_in) rfl (by k_is) rfl rfl rfl); (case kB => exact locs rfl); (case c2 => exact rfl); (case c3 => exact rfl); (case c4 => exact rfl); (case c5 => decide); k_whole
  intro g' L' h₁ FG F' N' K X' T' D hg
  have I0 := I
  obtain ⟨x, dx, ad, az, ai, ak, al⟩ := c
  obtain ⟨es, n, oD, oZ, oI, vs, nk, us, ns⟩ := o
  have od0 : OD ⟨x, dx, ad, az, ai, ak, al⟩ st es := I.od
  obtain ⟨nd, ⟨gD, gZ, gG, ⟨tC, gC⟩, ⟨tM, gM⟩, gF, gI, gK, n1, n2, n3, n4, n5, n6, n7, hes⟩, hD, hZ, hI, hK, lo1, lo2, lo3⟩ := I
  dsimp only [CL.led, CL.adr] at *
  have ⟨⟨x1, x2, x3, x4, x5, x6⟩, ⟨y1, y2, y3, y4, y5⟩, ⟨z1, z2, z3, z4⟩, ⟨w1, w2, w3⟩, ⟨v1, v2⟩, u1⟩ := nd7 nd
  k_steps
  refine (pop_in2 I0 hk (by omega) W).useX (r := []) (by assumption) (by assumption) (by assumption) (by assumption) (by first | exact roomD hd rfl | (simp only [depth_deeper, depth_in1]; omega)) (by first | exact roomU hu rfl | exact roomU1 hu rfl | (simp only [units_deeper, units_in1]; omega)) hh trivial (fun _ hp => nomatch hp) ?_
  intro h2 tk2 v2 o2 hPq F2 N2 M2 G2
  obtain ⟨⟨t3, rfl⟩, I2, hus⟩ := hPq
  have I20 := I2
  k_steps
  try dsimp only
  rename Fr g' _ _ _ => kF
  rename News g' _ _ _ => kN
  obtain ⟨q1, q2, q3⟩ := backD (cn := cn) (cs := cs) (a := a) (ccd := ccd) FG KtsTurn.refl kF (newsL kN) hg
  have hfr := fresh_of hg kN (.head _) (adr_off (c := ⟨x, dx, ad, az, ai, ak, al⟩) (by first | assumption | exact ltAll (by assumption)))
  refine hret _ _ _ _ ⟨_, st.del key, [], [], _, ?_, .list (.head _) (.cons (.int _ _) .nil), (fun q hq => by rw [List.mem_singleton.mp hq]; exact ⟨hfr, (kN _ (.head _)).1⟩), ?_, rfl, rfl, rfl, I20, ?_, .nil, fun _ hp => nomatch hp⟩ q1 q2 q3
  · rw [List.append_nil]; exact due_gone hk (.inl rfl)
  · have := W.del (has_iff.mp hk); rw [← del_keys] at this; exact this
  · simp [refsOf, hus]
theorem deed_del {w : World} {c : CL} {o : CO} {st : CS} {nums : List Int} {Ch : Heap → Prop} {key value : Int} {td tk tv : Tok} {sh₀ : List (List Int)} (I : CI w c o st) (W : WfK (st.pairs.map (·.1)) st.ks st.ix) (hk : kdfHas st.pairs key = true) (hc5 : st.pairs.length ≤ 5) :
    DSpec w [.ref c.x, .int 7 td, .int key tk, .int value tv] c o Ch (DPost w c nums st sh₀ o.us 7 key value) := by
  intro A₀ s base L a m cn cs ccd R p loose mean mg mb B F N XB TB hck hd hu hh hpre hret
  refine' enterD ?k1 ?k2 ?kN ?kc ?k3 ?k4 ?k6 ?k7 ?k8 ?k9 ?kB ?_ ?c2 ?c3 ?c4 ?c5; (case k1 => assumption); (case k2 => assumption); (case kN => assumption); (case kc => assumption); (case k3 => assumption); (case k4 => assumption); (case k6 => k_is); (case k7 => k_is); (case k8 => first | exact roomA hd | ((try simp only [depth_deeper, depth_in1] at *); omega)); (case k9 => first | exact BindsTo.of_eq rfl | exact binds_K (by k_in) rfl (by k_is) rfl rfl rfl); (case kB => exact locs rfl); (case c2 => exact rfl); (case c3 => exact rfl); (case c4 => exact rfl); (case c5 => decide); k_whole
  intro g' L' h₁ FG F' N' K X' T' D hg
  have I0 := I
  obtain ⟨x, dx, ad, az, ai, ak, al⟩ := c
  obtain ⟨es, n, oD, oZ, oI, vs, nk, us, ns⟩ := o
  have od0 : OD ⟨x, dx, ad, az, ai, ak, al⟩ st es := I.od
  obtain ⟨nd, ⟨gD, gZ, gG, ⟨tC, gC⟩, ⟨tM, gM⟩, gF, gI, gK, n1, n2, n3, n4, n5, n6, n7, hes⟩, hD, hZ, hI, hK, lo1, lo2, lo3⟩ := I
  dsimp only [CL.led, CL.adr] at *
  have ⟨⟨x1, x2, x3, x4, x5, x6⟩, ⟨y1, y2, y3, y4, y5⟩, ⟨z1, z2, z3, z4⟩, ⟨w1, w2, w3⟩, ⟨v1, v2⟩, u1⟩ := nd7 nd
  k_steps
  refine (rdel_spec I0 hk (by omega) W).useX (r := []) (by assumption) (by assumption) (by assumption) (by assumption) (by first | exact roomD hd rfl | (simp only [depth_deeper, depth_in1]; omega)) (by first | exact roomU hu rfl | exact roomU1 hu rfl | (simp only [units_deeper, units_in1]; omega)) hh trivial (fun _ hp => nomatch hp) ?_
  intro h2 tk2 v2 o2 hPq F2 N2 M2 G2
  obtain ⟨rfl, I2, hus⟩ := hPq
  have I20 := I2
  k_steps
  try dsimp only
  rename Fr g' _ _ _ => kF
  rename News g' _ _ _ => kN
  obtain ⟨q1, q2, q3⟩ := backD (cn := cn) (cs := cs) (a := a) (ccd := ccd) FG KtsTurn.refl kF (newsL kN) hg
  have hfr := fresh_of hg kN (.head _) (adr_off (c := ⟨x, dx, ad, az, ai, ak, al⟩) (by first | assumption | exact ltAll (by assumption)))
  refine hret _ _ _ _ ⟨_, st.del key, [], [], _, ?_, .list (.head _) .nil, (fun q hq => by rw [List.mem_singleton.mp hq]; exact ⟨hfr, (kN _ (.head _)).1⟩), ?_, rfl, rfl, rfl, I20, ?_, .nil, fun _ hp => nomatch hp⟩ q1 q2 q3
  · rw [List.append_nil]; exact due_gone hk (.inr (.inl rfl))
  · have := W.del (has_iff.mp hk); rw [← del_keys] at this; exact this
  · simp [refsOf, hus]
theorem deed_del0 {w : World} {c : CL} {o : CO} {st : CS} {nums : List Int} {Ch : Heap → Prop} {key value : Int} {td tk tv : Tok} {sh₀ : List (List Int)} (I : CI w c o st) (W : WfK (st.pairs.map (·.1)) st.ks st.ix) (hk : kdfHas st.pairs key = false) :
    DSpec w [.ref c.x, .int 7 td, .int key tk, .int value tv] c o Ch (DPost w c nums st sh₀ o.us 7 key value) := by
  intro A₀ s base L a m cn cs ccd R p loose mean mg mb B F N XB TB hck hd hu hh hpre hret
  refine' enterD ?k1 ?k2 ?kN ?kc ?k3 ?k4 ?k6 ?k7 ?k8 ?k9 ?kB ?_ ?c2 ?c3 ?c4 ?c5; (case k1 => assumption); (case k2 => assumption); (case kN => assumption); (case kc => assumption); (case k3 => assumption); (case k4 => assumption); (case k6 => k_is); (case k7 => k_is); (case k8 => first | exact roomA hd | ((try simp only [depth_deeper, depth_in1] at *); omega)); (case k9 => first | exact BindsTo.of_eq rfl | exact binds_K (by k_in) rfl (by k_is) rfl rfl rfl); (case kB => exact locs rfl); (case c2 => exact rfl); (case c3 => exact rfl); (case c4 => exact rfl); (case c5 => decide); k_whole
  intro g' L' h₁ FG F' N' K X' T' D hg
  have I0 := I
  obtain ⟨x, dx, ad, az, ai, ak, al⟩ := c
  obtain ⟨es, n, oD, oZ, oI, vs, nk, us, ns⟩ := o
  have od0 : OD ⟨x, dx, ad, az, ai, ak, al⟩ st es := I.od
  obtain ⟨nd, ⟨gD, gZ, gG, ⟨tC, gC⟩, ⟨tM, gM⟩, gF, gI, gK, n1, n2, n3, n4, n5, n6, n7, hes⟩, hD, hZ, hI, hK, lo1, lo2, lo3⟩ := I
  dsimp only [CL.led, CL.adr] at *
  have ⟨⟨x1, x2, x3, x4, x5, x6⟩, ⟨y1, y2, y3, y4, y5⟩, ⟨z1, z2, z3, z4⟩, ⟨w1, w2, w3⟩, ⟨v1, v2⟩, u1⟩ := nd7 nd
  k_steps
  rename Fr g' _ _ _ => kF
  rename News g' _ _ _ => kN
  refine RSpecH.use (rdel_miss I0 hk) K kF kN (Around.frames_deeper K.stack) rfl X' T' XB TB D (by first | exact roomD hd rfl | (simp only [depth_deeper, depth_in1]; omega)) (by first | exact roomU hu rfl | exact roomU1 hu rfl | (simp only [units_deeper, units_in1]; omega)) hh ?_
  intro hE tkE eE GE FE RE UE
  dsimp only
  k_steps
  try dsimp only
  rename KtsTurn _ _ _ => kT
  rename Fr _ L' _ _ => kF
  rename News _ L' _ _ => kN
  rename _ < _ ∧ _ < _ ∧ _ => ll
  obtain ⟨q1, q2, q3⟩ := backD FG kT kF (news17 kN) hg
  have hfr := fresh_g hg (fresh_t kT (kN _ (.head _)).2.2) (off7 ll)
  exact hret _ _ _ _ (DPost.same I0 W (due_off hk (.inr (.inr (.inr (.inl rfl))))) (.list (.head _) (.cons (.str _ _) .nil)) (fun q hq => by rw [List.mem_singleton.mp hq]; exact ⟨hfr, (kN _ (.head _)).1⟩)) q1 q2 q3
theorem deed_take {w : World} {c : CL} {o : CO} {st : CS} {nums : List Int} {Ch : Heap → Prop} {key value : Int} {td tk tv : Tok} {sh₀ : List (List Int)} (I : CI w c o st) (W : WfK (st.pairs.map (·.1)) st.ks st.ix) (hk : kdfHas st.pairs key = true) (hc5 : st.pairs.length ≤ 5) (hv : ¬ value % 4 = 0) :
    DSpec w [.ref c.x, .int 9 td, .int key tk, .int value tv] c o Ch (DPost w c nums st sh₀ o.us 9 key value) := by
  have hv' : ¬ value.fmod 4 = 0 := by rw [Int.fmod_eq_emod_of_nonneg _ (by decide)]; exact hv
  intro A₀ s base L a m cn cs ccd R p loose mean mg mb B F N XB TB hck hd hu hh hpre hret
  refine' enterD ?k1 ?k2 ?kN ?kc ?k3 ?k4 ?k6 ?k7 ?k8 ?k9 ?kB ?_ ?c2 ?c3 ?c4 ?c5; (case k1 => assumption); (case k2 => assumption); (case kN => assumption); (case kc => assumption); (case k3 => assumption); (case k4 => assumption); (case k6 => k_is); (case k7 => k_is); (case k8 => first | exact roomA hd | ((try simp only [depth_deeper, depth_in1] at *); omega)); (case k9 => first | exact BindsTo.of_eq rfl | exact binds_K (by k_in) rfl (by k_is) rfl rfl rfl); (case kB => exact locs rfl); (case c2 => exact rfl); (case c3 => exact rfl); (case c4 => exact rfl); (case c5 => decide); k_whole
  intro g' L' h₁ FG F' N' K X' T' D hg
  have I0 := I
  obtain ⟨x, dx, ad, az, ai, ak, al⟩ := c
  obtain ⟨es, n, oD, oZ, oI, vs, nk, us, ns⟩ := o
  have od0 : OD ⟨x, dx, ad, az, ai, ak, al⟩ st es := I.od
  obtain ⟨nd, ⟨gD, gZ, gG, ⟨tC, gC⟩, ⟨tM, gM⟩, gF, gI, gK, n1, n2, n3, n4, n5, n6, n7, hes⟩, hD, hZ, hI, hK, lo1, lo2, lo3⟩ := I
  dsimp only [CL.led, CL.adr] at *
  have ⟨⟨x1, x2, x3, x4, x5, x6⟩, ⟨y1, y2, y3, y4, y5⟩, ⟨z1, z2, z3, z4⟩, ⟨w1, w2, w3⟩, ⟨v1, v2⟩, u1⟩ := nd7 nd
  k_steps
  · exact absurd ‹value.fmod 4 = 0› hv'
  refine (pop_in1 I0 hk (by omega) W).useX (r := []) (by assumption) (by assumption) (by assumption) (by assumption) (by first | exact roomD hd rfl | (simp only [depth_deeper, depth_in1]; omega)) (by first | exact roomU hu rfl | exact roomU1 hu rfl | (simp only [units_deeper, units_in1]; omega)) hh trivial (fun _ hp => nomatch hp) ?_
  intro h2 tk2 v2 o2 hPq F2 N2 M2 G2
  obtain ⟨⟨t3, rfl⟩, I2, hus⟩ := hPq
  have I20 := I2
  k_steps
  try dsimp only
  rename Fr g' _ _ _ => kF
  rename News g' _ _ _ => kN
  obtain ⟨q1, q2, q3⟩ := backD (cn := cn) (cs := cs) (a := a) (ccd := ccd) FG KtsTurn.refl kF (newsL kN) hg
  have hfr := fresh_of hg kN (.head _) (adr_off (c := ⟨x, dx, ad, az, ai, ak, al⟩) (by first | assumption | exact ltAll (by assumption)))
  refine hret _ _ _ _ ⟨_, st.del key, [], [], _, ?_, .list (.head _) (.cons (.int _ _) .nil), (fun q hq => by rw [List.mem_singleton.mp hq]; exact ⟨hfr, (kN _ (.head _)).1⟩), ?_, rfl, rfl, rfl, I20, ?_, .nil, fun _ hp => nomatch hp⟩ q1 q2 q3
  · rw [List.append_nil]; exact due_gone hk (.inr (.inr ⟨rfl, hv⟩))
  · have := W.del (has_iff.mp hk); rw [← del_keys] at this; exact this
  · simp [refsOf, hus]
theorem deed_take0 {w : World} {c : CL} {o : CO} {st : CS} {nums : List Int} {Ch : Heap → Prop} {key value : Int} {td tk tv : Tok} {sh₀ : List (List Int)} (I : CI w c o st) (W : WfK (st.pairs.map (·.1)) st.ks st.ix) (hk : kdfHas st.pairs key = false) (hv : ¬ value % 4 = 0) :
    DSpec w [.ref c.x, .int 9 td, .int key tk, .int value tv] c o Ch (DPost w c nums st sh₀ o.us 9 key value) := by
  have hv' : ¬ value.fmod 4 = 0 := by rw [Int.fmod_eq_emod_of_nonneg _ (by decide)]; exact hv
  intro A₀ s base L a m cn cs ccd R p loose mean mg mb B F N XB TB hck hd hu hh hpre hret
  refine' enterD ?k1 ?k2 ?kN ?kc ?k3 ?k4 ?k6 ?k7 ?k8 ?k9 ?kB ?_ ?c2 ?c3 ?c4 ?c5; (case k1 => assumption); (case k2 => assumption); (case kN => assumption); (case kc => assumption); (case k3 => assumption); (case k4 => assumption); (case k6 => k_is); (case k7 => k_is); (case k8 => first | exact roomA hd | ((try simp only [depth_deeper, depth_in1] at *); omega)); (case k9 => first | exact BindsTo.of_eq rfl | exact binds_K (by k_in) rfl (by k_is) rfl rfl rfl); (case kB => exact locs rfl); (case c2 => exact rfl); (case c3 => exact rfl); (case c4 => exact rfl); (case c5 => decide); k_whole
  intro g' L' h₁ FG F' N' K X' T' D hg
  have I0 := I
  obtain ⟨x, dx, ad, az, ai, ak, al⟩ := c
  obtain ⟨es, n, oD, oZ, oI, vs, nk, us, ns⟩ := o
  have od0 : OD ⟨x, dx, ad, az, ai, ak, al⟩ st es := I.od
  obtain ⟨nd, ⟨gD, gZ, gG, ⟨tC, gC⟩, ⟨tM, gM⟩, gF, gI, gK, n1, n2, n3, n4, n5, n6, n7, hes⟩, hD, hZ, hI, hK, lo1, lo2, lo3⟩ := I
  dsimp only [CL.led, CL.adr] at *
  have ⟨⟨x1, x2, x3, x4, x5, x6⟩, ⟨y1, y2, y3, y4, y5⟩, ⟨z1, z2, z3, z4⟩, ⟨w1, w2, w3⟩, ⟨v1, v2⟩, u1⟩ := nd7 nd
  k_steps
  · exact absurd ‹value.fmod 4 = 0› hv'
  rename Fr g' _ _ _ => kF
  rename News g' _ _ _ => kN
  refine RSpecH.use (pop_miss I0 hk) K kF kN (Around.frames_deeper K.stack) rfl X' T' XB TB D (by first | exact roomD hd rfl | (simp only [depth_deeper, depth_in1]; omega)) (by first | exact roomU hu rfl | exact roomU1 hu rfl | (simp only [units_deeper, units_in1]; omega)) hh ?_
  intro hE tkE eE GE FE RE UE
  dsimp only
  k_steps
  try dsimp only
  rename KtsTurn _ _ _ => kT
  rename Fr _ L' _ _ => kF
  rename News _ L' _ _ => kN
  rename _ < _ ∧ _ < _ ∧ _ => ll
  obtain ⟨q1, q2, q3⟩ := backD FG kT kF (news17 kN) hg
  have hfr := fresh_g hg (fresh_t kT (kN _ (.head _)).2.2) (off7 ll)
  exact hret _ _ _ _ (DPost.same I0 W (due_off hk (.inr (.inr (.inr (.inr ⟨rfl, hv⟩))))) (.list (.head _) (.cons (.str _ _) .nil)) (fun q hq => by rw [List.mem_singleton.mp hq]; exact ⟨hfr, (kN _ (.head _)).1⟩)) q1 q2 q3
theorem deed_clear {w : World} {c : CL} {o : CO} {st : CS} {nums : List Int} {Ch : Heap → Prop} {key value : Int} {td tk tv : Tok} {sh₀ : List (List Int)} (I : CI w c o st) (W : WfK (st.pairs.map (·.1)) st.ks st.ix) (hc5 : st.pairs.length ≤ 5) (hv : value % 4 = 0) :
    DSpec w [.ref c.x, .int 9 td, .int key tk, .int value tv] c o Ch (DPost w c nums st sh₀ o.us 9 key value) := by
  have hv' : value.fmod 4 = 0 := by rw [Int.fmod_eq_emod_of_nonneg _ (by decide)]; exact hv
  intro A₀ s base L a m cn cs ccd R p loose mean mg mb B F N XB TB hck hd hu hh hpre hret
  refine' enterD ?k1 ?k2 ?kN ?kc ?k3 ?k4 ?k6 ?k7 ?k8 ?k9 ?kB ?_ ?c2 ?c3 ?c4 ?c5; (case k1 => assumption); (case k2 => assumption); (case kN => assumption); (case kc => assumption); (case k3 => assumption); (case k4 => assumption); (case k6 => k_is); (case k7 => k_is); (case k8 => first | exact roomA hd | ((try simp only [depth_deeper, depth_in1] at *); omega)); (case k9 => first | exact BindsTo.of_eq rfl | exact binds_K (by k_in) rfl (by k_is) rfl rfl rfl); (case kB => exact locs rfl); (case c2 => exact rfl); (case c3 => exact rfl); (case c4 => exact rfl); (case c5 => decide); k_whole
  intro g' L' h₁ FG F' N' K X' T' D hg
  have I0 := I
  obtain ⟨x, dx, ad, az, ai, ak, al⟩ := c
  obtain ⟨es, n, oD, oZ, oI, vs, nk, us, ns⟩ := o
  have od0 : OD ⟨x, dx, ad, az, ai, ak, al⟩ st es := I.od
  obtain ⟨nd, ⟨gD, gZ, gG, ⟨tC, gC⟩, ⟨tM, gM⟩, gF, gI, gK, n1, n2, n3, n4, n5, n6, n7, hes⟩, hD, hZ, hI, hK, lo1, lo2, lo3⟩ := I
  dsimp only [CL.led, CL.adr] at *
  have ⟨⟨x1, x2, x3, x4, x5, x6⟩, ⟨y1, y2, y3, y4, y5⟩, ⟨z1, z2, z3, z4⟩, ⟨w1, w2, w3⟩, ⟨v1, v2⟩, u1⟩ := nd7 nd
  k_steps
  ·
    refine (rclear_spec I0 (by omega) W).useX (r := []) (by assumption) (by assumption) (by assumption) (by assumption) (by first | exact roomD hd rfl | (simp only [depth_deeper, depth_in1]; omega)) (by first | exact roomU hu rfl | exact roomU1 hu rfl | (simp only [units_deeper, units_in1]; omega)) hh trivial (fun _ hp => nomatch hp) ?_
    intro h2 tk2 v2 o2 hPq F2 N2 M2 G2
    obtain ⟨rfl, I2, hus⟩ := hPq
    have I20 := I2
    k_steps
    try dsimp only
    rename Fr g' _ _ _ => kF
    rename News g' _ _ _ => kN
    obtain ⟨q1, q2, q3⟩ := backD (cn := cn) (cs := cs) (a := a) (ccd := ccd) FG KtsTurn.refl kF (newsL kN) hg
    have hfr := fresh_of hg kN (.head _) (adr_off (c := ⟨x, dx, ad, az, ai, ak, al⟩) (by first | assumption | exact ltAll (by assumption)))
    refine hret _ _ _ _ ⟨_, { st with pairs := [], ks := [], ix := [] }, [], [], _, ?_, .list (.head _) .nil, (fun q hq => by rw [List.mem_singleton.mp hq]; exact ⟨hfr, (kN _ (.head _)).1⟩), ?_, rfl, rfl, rfl, I20, ?_, .nil, fun _ hp => nomatch hp⟩ q1 q2 q3
    · rw [List.append_nil]; exact due_clear hv
    · exact ⟨.nil, .nil, .nil, fun k => by simp [kdfHas], fun _ h => nomatch h⟩
    · simp [refsOf, hus]
  · exact absurd hv' (by assumption)
theorem deed_popitem0 {w : World} {c : CL} {o : CO} {st : CS} {nums : List Int} {Ch : Heap → Prop} {key value : Int} {td tk tv : Tok} {sh₀ : List (List Int)} (I : CI w c o st) (W : WfK (st.pairs.map (·.1)) st.ks st.ix) (hk : st.pairs = []) :
    DSpec w [.ref c.x, .int 8 td, .int key tk, .int value tv] c o Ch (DPost w c nums st sh₀ o.us 8 key value) := by
  have hks : st.ks = [] := List.eq_nil_of_length_eq_zero (by rw [W.kslen, hk]; rfl)
  intro A₀ s base L a m cn cs ccd R p loose mean mg mb B F N XB TB hck hd hu hh hpre hret
  refine' enterD ?k1 ?k2 ?kN ?kc ?k3 ?k4 ?k6 ?k7 ?k8 ?k9 ?kB ?_ ?c2 ?c3 ?c4 ?c5; (case k1 => assumption); (case k2 => assumption); (case kN => assumption); (case kc => assumption); (case k3 => assumption); (case k4 => assumption); (case k6 => k_is); (case k7 => k_is); (case k8 => first | exact roomA hd | ((try simp only [depth_deeper, depth_in1] at *); omega)); (case k9 => first | exact BindsTo.of_eq rfl | exact binds_K (by k_in) rfl (by k_is) rfl rfl rfl); (case kB => exact locs rfl); (case c2 => exact rfl); (case c3 => exact rfl); (case c4 => exact rfl); (case c5 => decide); k_whole
  intro g' L' h₁ FG F' N' K X' T' D hg
  have I0 := I
  obtain ⟨x, dx, ad, az, ai, ak, al⟩ := c
  obtain ⟨es, n, oD, oZ, oI, vs, nk, us, ns⟩ := o
  have od0 : OD ⟨x, dx, ad, az, ai, ak, al⟩ st es := I.od
  obtain ⟨nd, ⟨gD, gZ, gG, ⟨tC, gC⟩, ⟨tM, gM⟩, gF, gI, gK, n1, n2, n3, n4, n5, n6, n7, hes⟩, hD, hZ, hI, hK, lo1, lo2, lo3⟩ := I
  dsimp only [CL.led, CL.adr] at *
  have ⟨⟨x1, x2, x3, x4, x5, x6⟩, ⟨y1, y2, y3, y4, y5⟩, ⟨z1, z2, z3, z4⟩, ⟨w1, w2, w3⟩, ⟨v1, v2⟩, u1⟩ := nd7 nd
  k_steps
  rename Fr g' _ _ _ => kF
  rename News g' _ _ _ => kN
  refine RSpecH.use (popitem_empty I0 hks) K kF kN (Around.frames_deeper K.stack) rfl X' T' XB TB D (by first | exact roomD hd rfl | (simp only [depth_deeper, depth_in1]; omega)) (by first | exact roomU hu rfl | exact roomU1 hu rfl | (simp only [units_deeper, units_in1]; omega)) hh ?_
  intro hE tkE eE GE FE RE UE
  dsimp only
  k_steps
  try dsimp only
  rename KtsTurn _ _ _ => kT
  rename Fr _ L' _ _ => kF
  rename News _ L' _ _ => kN
  rename _ < _ ∧ _ < _ ∧ _ => ll
  obtain ⟨q1, q2, q3⟩ := backD FG kT kF (news17 kN) hg
  have hfr := fresh_g hg (fresh_t kT (kN _ (.head _)).2.2) (off7 ll)
  exact hret _ _ _ _ (DPost.same I0 W (due_pop0 hk) (.list (.head _) (.cons (.str _ _) .nil)) (fun q hq => by rw [List.mem_singleton.mp hq]; exact ⟨hfr, (kN _ (.head _)).1⟩)) q1 q2 q3
end
section
theorem deed_popitem {w : World} {c : CL} {o : CO} {st : CS} {nums : List Int} {Ch : Heap → Prop} {key value : Int} {td tk tv : Tok} {sh₀ : List (List Int)} (I : CI w c o st) (W : WfK (st.pairs.map (·.1)) st.ks st.ix) (hk : st.pairs ≠ []) (hc5 : st.pairs.length ≤ 5) (H : ChS w c st.fch nums Ch) (hul : o.us.length ≤ 500) (h0 : sh₀.length = o.us.length) :
    DSpec w [.ref c.x, .int 8 td, .int key tk, .int value tv] c o Ch (DPost w c nums st sh₀ o.us 8 key value) := by
  intro A₀ s base L a m cn cs ccd R p loose mean mg mb B F N XB TB hck hd hu hh hpre hret
  refine' enterD ?k1 ?k2 ?kN ?kc ?k3 ?k4 ?k6 ?k7 ?k8 ?k9 ?kB ?_ ?c2 ?c3 ?c4 ?c5; (case k1 => assumption); (case k2 => assumption); (case kN => assumption); (case kc => assumption); (case k3 => assumption); (case k4 => assumption); (case k6 => k_is); (case k7 => k_is); (case k8 => first | exact roomA hd | ((try simp only [depth_deeper, depth_in1] at *); omega)); (case k9 => first | exact BindsTo.of_eq rfl | exact binds_K (by k_in) rfl (by k_is) rfl rfl rfl); (case kB => exact locs rfl); (case c2 => exact rfl); (case c3 => exact rfl); (case c4 => exact rfl); (case c5 => decide); k_whole
  intro g' L' h₁ FG F' N' K X' T' D hg
  have I0 := I
  have hCh : ChP g' L' Ch := H.inner hpre (by rw [led_adr] at hg; exact hg)
  obtain ⟨x, dx, ad, az, ai, ak, al⟩ := c
  obtain ⟨es, n, oD, oZ, oI, vs, nk, us, ns⟩ := o
  have od0 : OD ⟨x, dx, ad, az, ai, ak, al⟩ st es := I.od
  obtain ⟨nd, ⟨gD, gZ, gG, ⟨tC, gC⟩, ⟨tM, gM⟩, gF, gI, gK, n1, n2, n3, n4, n5, n6, n7, hes⟩, hD, hZ, hI, hK, lo1, lo2, lo3⟩ := I
  dsimp only [CL.led, CL.adr] at *
  have ⟨⟨x1, x2, x3, x4, x5, x6⟩, ⟨y1, y2, y3, y4, y5⟩, ⟨z1, z2, z3, z4⟩, ⟨w1, w2, w3⟩, ⟨v1, v2⟩, u1⟩ := nd7 nd
  k_steps
  refine (popitem_spec I0 W hk hc5 H hul).useX (r := []) (by assumption) (by assumption) (by assumption) (by assumption) (by first | exact roomD hd rfl | (simp only [depth_deeper, depth_in1]; omega)) (by first | exact roomU hu rfl | exact roomU1 hu rfl | (simp only [units_deeper, units_in1]; omega)) hh (hCh _ _ (by assumption)) (fun _ hp => nomatch hp) ?_
  intro h3 tk3 v3 o2 hPq F3 N3 M3 G3
  obtain ⟨tup, t1, t2, nt, a1, rfl, ht0, ht1, I2, hus, ha, ⟨va, na, ea, ia⟩⟩ := hPq
  replace N3 := news_more (news_more N3 (G3 a1 ha).1 ea) (G3 tup ht0).1 ht1
  rw [List.append_nil, List.append_assoc] at N3
  have hna := (G3 a1 ha).2
  have hnt := (G3 tup ht0).2
  have I20 := I2
  k_steps
  try dsimp only
  rename Fr g' _ _ _ => kF
  rename News g' _ _ _ => kN
  obtain ⟨q1, q2, q3⟩ := backD (cn := cn) (cs := cs) (a := a) (ccd := ccd) FG KtsTurn.refl kF (newsL kN) hg
  have hfr := fresh_of hg kN (.head _) (adr_off (c := ⟨x, dx, ad, az, ai, ak, al⟩) (by first | assumption | exact ltAll (by assumption)))
  rename Addr => lst
  have pe : picked st.ks nums us.length = picked (st.pairs.map (·.1)) nums sh₀.length := by rw [h0]; exact picked_perm W.perm _
  have hpm : picked st.ks nums us.length ∈ st.ks := picked_mem fun e => hk (List.eq_nil_of_length_eq_zero (by have := W.kslen; rw [e, List.length_map] at this; exact this.symm))
  refine hret _ _ _ _ ⟨_, st.del (picked st.ks nums us.length), [(a1, listOf va.toArray na)], [sortI st.ks], [(lst, listOf [Value.ref tup].toArray 0), (tup, { cls := .type "tuple", data := .seq [Value.int (picked st.ks nums us.length) t1, Value.int (kdfLook st.pairs (picked st.ks nums us.length) 0) t2].toArray nt })], ?_, .list (.head _) (.cons (.tuple (.tail _ (.head _)) (.cons (.int _ t1) (.cons (.int _ t2) .nil))) .nil), ?_, ?_, rfl, rfl, rfl, I20, hus, .cons a1 va na ia .nil, ?_⟩ q1 q2 q3
  · rw [due_pop1 hk, ← pe, sortI_of_perm W.perm]; rfl
  · intro q hq
    rcases List.mem_cons.mp hq with rfl | hq
    · exact ⟨hfr, (kN _ (.head _)).1⟩
    · rw [List.mem_singleton.mp hq]
      exact ⟨fresh_of hg kN (List.Mem.tail _ (List.mem_append_right _ (.tail _ (.head _)))) hnt, (kN _ (List.Mem.tail _ (List.mem_append_right _ (.tail _ (.head _))))).1⟩
  · have := W.del (W.perm.mem_iff.mp hpm); rw [← del_keys] at this; exact this
  · intro q hq
    rw [List.mem_singleton.mp hq]
    exact ⟨fresh_of hg kN (List.Mem.tail _ (List.mem_append_right _ (.head _))) hna, (kN _ (List.Mem.tail _ (List.mem_append_right _ (.head _)))).1⟩
theorem deed_set {w : World} {c : CL} {o : CO} {st : CS} {nums : List Int} {Ch : Heap → Prop} {key value : Int} {td tk tv : Tok} {sh₀ : List (List Int)} (I : CI w c o st) (W : WfK (st.pairs.map (·.1)) st.ks st.ix) {d : Int} (hd2 : d < 2) (hc5 : st.pairs.length ≤ 5) (H : ChS w c st.fch nums Ch) (hul : o.us.length + st.pairs.length ≤ 500) (h0 : sh₀.length = o.us.length) (hr : roomOf st.sz st.pairs ≤ st.room) (hv : 0 ≤ (if st.sz then sizeOf value else 1) ∧ (if st.sz then sizeOf value else 1) ≤ st.room) :
    DSpec w [.ref c.x, .int d td, .int key tk, .int value tv] c o Ch (DPost w c nums st sh₀ o.us d key value) := by
  intro A₀ s base L a m cn cs ccd R p loose mean mg mb B F N XB TB hck hd hu hh hpre hret
  refine' enterD ?k1 ?k2 ?kN ?kc ?k3 ?k4 ?k6 ?k7 ?k8 ?k9 ?kB ?_ ?c2 ?c3 ?c4 ?c5; (case k1 => assumption); (case k2 => assumption); (case kN => assumption); (case kc => assumption); (case k3 => assumption); (case k4 => assumption); (case k6 => k_is); (case k7 => k_is); (case k8 => first | exact roomA hd | ((try simp only [depth_deeper, depth_in1] at *); omega)); (case k9 => first | exact BindsTo.of_eq rfl | exact binds_K (by k_in) rfl (by k_is) rfl rfl rfl); (case kB => exact locs rfl); (case c2 => exact rfl); (case c3 => exact rfl); (case c4 => exact rfl); (case c5 => decide); k_whole
  intro g' L' h₁ FG F' N' K X' T' D hg
  have I0 := I
  have hCh : ChP g' L' Ch := H.inner hpre (by rw [led_adr] at hg; exact hg)
  obtain ⟨x, dx, ad, az, ai, ak, al⟩ := c
  obtain ⟨es, n, oD, oZ, oI, vs, nk, us, ns⟩ := o
  have od0 : OD ⟨x, dx, ad, az, ai, ak, al⟩ st es := I.od
  obtain ⟨nd, ⟨gD, gZ, gG, ⟨tC, gC⟩, ⟨tM, gM⟩, gF, gI, gK, n1, n2, n3, n4, n5, n6, n7, hes⟩, hD, hZ, hI, hK, lo1, lo2, lo3⟩ := I
  dsimp only [CL.led, CL.adr] at *
  have ⟨⟨x1, x2, x3, x4, x5, x6⟩, ⟨y1, y2, y3, y4, y5⟩, ⟨z1, z2, z3, z4⟩, ⟨w1, w2, w3⟩, ⟨v1, v2⟩, u1⟩ := nd7 nd
  k_steps
  refine (rset_spec I0 W hc5 H hul h0 hr hv.1 hv.2).useX (r := []) (by assumption) (by assumption) (by assumption) (by assumption) (by first | exact roomD hd rfl | (simp only [depth_deeper, depth_in1]; omega)) (by first | exact roomU hu rfl | exact roomU1 hu rfl | (simp only [units_deeper, units_in1]; omega)) hh (hCh _ _ (by assumption)) (fun _ hp => nomatch hp) ?_
  intro h2 tk2 v2 o2 hPq F2 N2 M2 G2
  obtain ⟨rfl, st2, p', r, sh, hev, hp, W2, e1, e2, e3, I2, hus, hsn, hfr2⟩ := hPq
  replace N2 := news_all N2 (fun p hp => (G2 _ (hfr2 p hp).1).1) (fun p hp => (hfr2 p hp).2)
  rw [List.append_nil] at N2
  have hnr : ∀ p ∈ r, p.1 ∉ [x, dx, ad, az, ai, ak, al] := fun p hp => (G2 _ (hfr2 p hp).1).2
  have I20 := I2
  k_steps
  try dsimp only
  rename Fr g' _ _ _ => kF
  rename News g' _ _ _ => kN
  obtain ⟨q1, q2, q3⟩ := backD (cn := cn) (cs := cs) (a := a) (ccd := ccd) FG KtsTurn.refl kF (newsL kN) hg
  have hfr := fresh_of hg kN (.head _) (adr_off (c := ⟨x, dx, ad, az, ai, ak, al⟩) (by first | assumption | exact ltAll (by assumption)))
  have kR := newsR kN
  refine hret _ _ _ _ ⟨_, st2, r, sh, _, ?_, .list (.head _) .nil, (fun q hq => by rw [List.mem_singleton.mp hq]; exact ⟨hfr, (kN _ (.head _)).1⟩), W2, e1, e2, e3, I20, hus, hsn, fun q hq => ⟨fresh_g hg (kR q hq).2.2 (hnr q hq), (kR q hq).1⟩⟩ q1 q2 q3
  rw [due_stored (.inl hd2) hv, hev, if_neg (by omega), hp]
theorem deed_set0 {w : World} {c : CL} {o : CO} {st : CS} {nums : List Int} {Ch : Heap → Prop} {key value : Int} {td tk tv : Tok} {sh₀ : List (List Int)} (I : CI w c o st) (W : WfK (st.pairs.map (·.1)) st.ks st.ix) {d : Int} (hd2 : d < 2) (hv : ¬ (0 ≤ (if st.sz then sizeOf value else 1) ∧ (if st.sz then sizeOf value else 1) ≤ st.room)) :
    DSpec w [.ref c.x, .int d td, .int key tk, .int value tv] c o Ch (DPost w c nums st sh₀ o.us d key value) := by
  intro A₀ s base L a m cn cs ccd R p loose mean mg mb B F N XB TB hck hd hu hh hpre hret
  refine' enterD ?k1 ?k2 ?kN ?kc ?k3 ?k4 ?k6 ?k7 ?k8 ?k9 ?kB ?_ ?c2 ?c3 ?c4 ?c5; (case k1 => assumption); (case k2 => assumption); (case kN => assumption); (case kc => assumption); (case k3 => assumption); (case k4 => assumption); (case k6 => k_is); (case k7 => k_is); (case k8 => first | exact roomA hd | ((try simp only [depth_deeper, depth_in1] at *); omega)); (case k9 => first | exact BindsTo.of_eq rfl | exact binds_K (by k_in) rfl (by k_is) rfl rfl rfl); (case kB => exact locs rfl); (case c2 => exact rfl); (case c3 => exact rfl); (case c4 => exact rfl); (case c5 => decide); k_whole
  intro g' L' h₁ FG F' N' K X' T' D hg
  have I0 := I
  obtain ⟨x, dx, ad, az, ai, ak, al⟩ := c
  obtain ⟨es, n, oD, oZ, oI, vs, nk, us, ns⟩ := o
  have od0 : OD ⟨x, dx, ad, az, ai, ak, al⟩ st es := I.od
  obtain ⟨nd, ⟨gD, gZ, gG, ⟨tC, gC⟩, ⟨tM, gM⟩, gF, gI, gK, n1, n2, n3, n4, n5, n6, n7, hes⟩, hD, hZ, hI, hK, lo1, lo2, lo3⟩ := I
  dsimp only [CL.led, CL.adr] at *
  have ⟨⟨x1, x2, x3, x4, x5, x6⟩, ⟨y1, y2, y3, y4, y5⟩, ⟨z1, z2, z3, z4⟩, ⟨w1, w2, w3⟩, ⟨v1, v2⟩, u1⟩ := nd7 nd
  k_steps
  rename Fr g' _ _ _ => kF
  rename News g' _ _ _ => kN
  refine RSpecH.use (rset_refuse I0 hv) K kF kN (Around.frames_deeper K.stack) rfl X' T' XB TB D (by first | exact roomD hd rfl | (simp only [depth_deeper, depth_in1]; omega)) (by first | exact roomU hu rfl | exact roomU1 hu rfl | (simp only [units_deeper, units_in1]; omega)) hh ?_
  intro hE tkE eE GE FE RE UE
  dsimp only
  k_steps
  try dsimp only
  rename KtsTurn _ _ _ => kT
  rename Fr _ L' _ _ => kF
  rename News _ L' _ _ => kN
  rename _ < _ ∧ _ < _ ∧ _ => ll
  obtain ⟨q1, q2, q3⟩ := backD FG kT kF (news17 kN) hg
  have hfr := fresh_g hg (fresh_t kT (kN _ (.head _)).2.2) (off7 ll)
  exact hret _ _ _ _ (DPost.same I0 W (due_refused (.inl hd2) hv) (.list (.head _) (.cons (.str _ _) .nil)) (fun q hq => by rw [List.mem_singleton.mp hq]; exact ⟨hfr, (kN _ (.head _)).1⟩)) q1 q2 q3
theorem deed_sdef0 {w : World} {c : CL} {o : CO} {st : CS} {nums : List Int} {Ch : Heap → Prop} {key value : Int} {td tk tv : Tok} {sh₀ : List (List Int)} (I : CI w c o st) (W : WfK (st.pairs.map (·.1)) st.ks st.ix) (hk : kdfHas st.pairs key = false) (hv : ¬ (0 ≤ (if st.sz then sizeOf value else 1) ∧ (if st.sz then sizeOf value else 1) ≤ st.room)) :
    DSpec w [.ref c.x, .int 6 td, .int key tk, .int value tv] c o Ch (DPost w c nums st sh₀ o.us 6 key value) := by
  intro A₀ s base L a m cn cs ccd R p loose mean mg mb B F N XB TB hck hd hu hh hpre hret
  refine' enterD ?k1 ?k2 ?kN ?kc ?k3 ?k4 ?k6 ?k7 ?k8 ?k9 ?kB ?_ ?c2 ?c3 ?c4 ?c5; (case k1 => assumption); (case k2 => assumption); (case kN => assumption); (case kc => assumption); (case k3 => assumption); (case k4 => assumption); (case k6 => k_is); (case k7 => k_is); (case k8 => first | exact roomA hd | ((try simp only [depth_deeper, depth_in1] at *); omega)); (case k9 => first | exact BindsTo.of_eq rfl | exact binds_K (by k_in) rfl (by k_is) rfl rfl rfl); (case kB => exact locs rfl); (case c2 => exact rfl); (case c3 => exact rfl); (case c4 => exact rfl); (case c5 => decide); k_whole
  intro g' L' h₁ FG F' N' K X' T' D hg
  have I0 := I
  obtain ⟨x, dx, ad, az, ai, ak, al⟩ := c
  obtain ⟨es, n, oD, oZ, oI, vs, nk, us, ns⟩ := o
  have od0 : OD ⟨x, dx, ad, az, ai, ak, al⟩ st es := I.od
  obtain ⟨nd, ⟨gD, gZ, gG, ⟨tC, gC⟩, ⟨tM, gM⟩, gF, gI, gK, n1, n2, n3, n4, n5, n6, n7, hes⟩, hD, hZ, hI, hK, lo1, lo2, lo3⟩ := I
  dsimp only [CL.led, CL.adr] at *
  have ⟨⟨x1, x2, x3, x4, x5, x6⟩, ⟨y1, y2, y3, y4, y5⟩, ⟨z1, z2, z3, z4⟩, ⟨w1, w2, w3⟩, ⟨v1, v2⟩, u1⟩ := nd7 nd
  k_steps
  rename Fr g' _ _ _ => kF
  rename News g' _ _ _ => kN
  refine RSpecH.use (sdef_refuse I0 hk hv) K kF kN (Around.frames_deeper K.stack) rfl X' T' XB TB D (by first | exact roomD hd rfl | (simp only [depth_deeper, depth_in1]; omega)) (by first | exact roomU hu rfl | exact roomU1 hu rfl | (simp only [units_deeper, units_in1]; omega)) hh ?_
  intro hE tkE eE GE FE RE UE
  dsimp only
  k_steps
  try dsimp only
  rename KtsTurn _ _ _ => kT
  rename Fr _ L' _ _ => kF
  rename News _ L' _ _ => kN
  rename _ < _ ∧ _ < _ ∧ _ => ll
  obtain ⟨q1, q2, q3⟩ := backD FG kT kF (news17 kN) hg
  have hfr := fresh_g hg (fresh_t kT (kN _ (.head _)).2.2) (off7 ll)
  exact hret _ _ _ _ (DPost.same I0 W (due_refused (.inr ⟨rfl, hk⟩) hv) (.list (.head _) (.cons (.str _ _) .nil)) (fun q hq => by rw [List.mem_singleton.mp hq]; exact ⟨hfr, (kN _ (.head _)).1⟩)) q1 q2 q3
theorem deed_sdef1 {w : World} {c : CL} {o : CO} {st : CS} {nums : List Int} {Ch : Heap → Prop} {key value : Int} {td tk tv : Tok} {sh₀ : List (List Int)} (I : CI w c o st) (W : WfK (st.pairs.map (·.1)) st.ks st.ix) (hk : kdfHas st.pairs key = false) (hc5 : st.pairs.length ≤ 5) (H : ChS w c st.fch nums Ch) (hul : o.us.length + st.pairs.length ≤ 500) (h0 : sh₀.length = o.us.length) (hr : roomOf st.sz st.pairs ≤ st.room) (hv : 0 ≤ (if st.sz then sizeOf value else 1) ∧ (if st.sz then sizeOf value else 1) ≤ st.room) :
    DSpec w [.ref c.x, .int 6 td, .int key tk, .int value tv] c o Ch (DPost w c nums st sh₀ o.us 6 key value) := by
  intro A₀ s base L a m cn cs ccd R p loose mean mg mb B F N XB TB hck hd hu hh hpre hret
  refine' enterD ?k1 ?k2 ?kN ?kc ?k3 ?k4 ?k6 ?k7 ?k8 ?k9 ?kB ?_ ?c2 ?c3 ?c4 ?c5; (case k1 => assumption); (case k2 => assumption); (case kN => assumption); (case kc => assumption); (case k3 => assumption); (case k4 => assumption); (case k6 => k_is); (case k7 => k_is); (case k8 => first | exact roomA hd | ((try simp only [depth_deeper, depth_in1] at *); omega)); (case k9 => first | exact BindsTo.of_eq rfl | exact binds_K (by k_in) rfl (by k_is) rfl rfl rfl); (case kB => exact locs rfl); (case c2 => exact rfl); (case c3 => exact rfl); (case c4 => exact rfl); (case c5 => decide); k_whole
  intro g' L' h₁ FG F' N' K X' T' D hg
  have I0 := I
  have hCh : ChP g' L' Ch := H.inner hpre (by rw [led_adr] at hg; exact hg)
  obtain ⟨x, dx, ad, az, ai, ak, al⟩ := c
  obtain ⟨es, n, oD, oZ, oI, vs, nk, us, ns⟩ := o
  have od0 : OD ⟨x, dx, ad, az, ai, ak, al⟩ st es := I.od
  obtain ⟨nd, ⟨gD, gZ, gG, ⟨tC, gC⟩, ⟨tM, gM⟩, gF, gI, gK, n1, n2, n3, n4, n5, n6, n7, hes⟩, hD, hZ, hI, hK, lo1, lo2, lo3⟩ := I
  dsimp only [CL.led, CL.adr] at *
  have ⟨⟨x1, x2, x3, x4, x5, x6⟩, ⟨y1, y2, y3, y4, y5⟩, ⟨z1, z2, z3, z4⟩, ⟨w1, w2, w3⟩, ⟨v1, v2⟩, u1⟩ := nd7 nd
  k_steps
  refine (sdef_off I0 hk W hc5 H hul h0 hr hv.1 hv.2).useX (r := []) (by assumption) (by assumption) (by assumption) (by assumption) (by first | exact roomD hd rfl | (simp only [depth_deeper, depth_in1]; omega)) (by first | exact roomU hu rfl | exact roomU1 hu rfl | (simp only [units_deeper, units_in1]; omega)) hh (hCh _ _ (by assumption)) (fun _ hp => nomatch hp) ?_
  intro h2 tk2 v2 o2 hPq F2 N2 M2 G2
  obtain ⟨⟨t2, rfl⟩, st2, p', r, sh, hev, hp, W2, e1, e2, e3, I2, hus, hsn, hfr2⟩ := hPq
  replace N2 := news_all N2 (fun p hp => (G2 _ (hfr2 p hp).1).1) (fun p hp => (hfr2 p hp).2)
  rw [List.append_nil] at N2
  have hnr : ∀ p ∈ r, p.1 ∉ [x, dx, ad, az, ai, ak, al] := fun p hp => (G2 _ (hfr2 p hp).1).2
  have I20 := I2
  k_steps
  try dsimp only
  rename Fr g' _ _ _ => kF
  rename News g' _ _ _ => kN
  obtain ⟨q1, q2, q3⟩ := backD (cn := cn) (cs := cs) (a := a) (ccd := ccd) FG KtsTurn.refl kF (newsL kN) hg
  have hfr := fresh_of hg kN (.head _) (adr_off (c := ⟨x, dx, ad, az, ai, ak, al⟩) (by first | assumption | exact ltAll (by assumption)))
  have kR := newsR kN
  refine hret _ _ _ _ ⟨_, st2, r, sh, _, ?_, .list (.head _) (.cons (.int _ t2) .nil), (fun q hq => by rw [List.mem_singleton.mp hq]; exact ⟨hfr, (kN _ (.head _)).1⟩), W2, e1, e2, e3, I20, hus, hsn, fun q hq => ⟨fresh_g hg (kR q hq).2.2 (hnr q hq), (kR q hq).1⟩⟩ q1 q2 q3
  rw [due_stored (.inr ⟨rfl, hk⟩) hv, hev, if_pos rfl, hp]
end
section
theorem deed_spec {w : World} {c : CL} {o : CO} {st : CS} {nums : List Int} {Ch : Heap → Prop} {d key value : Int} {td tk tv : Tok} {sh₀ : List (List Int)} (I : CI w c o st) (W : WfK (st.pairs.map (·.1)) st.ks st.ix) (hc5 : st.pairs.length ≤ 5) (H : ChS w c st.fch nums Ch) (hul : o.us.length + st.pairs.length ≤ 500)
    (h0 : sh₀.length = o.us.length) (hr : roomOf st.sz st.pairs ≤ st.room) (hd0 : 0 ≤ d) (hd9 : d < 10) :
    DSpec w [.ref c.x, .int d td, .int key tk, .int value tv] c o Ch (DPost w c nums st sh₀ o.us d key value) := by
  have hcase : d < 2 ∨ d = 2 ∨ d = 3 ∨ d = 4 ∨ d = 5 ∨ d = 6 ∨ d = 7 ∨ d = 8 ∨ d = 9 := by omega
  rcases hcase with h | h | h | h | h | h | h | h | h
  · by_cases hv : 0 ≤ (if st.sz then sizeOf value else 1) ∧ (if st.sz then sizeOf value else 1) ≤ st.room
    · exact deed_set I W h hc5 H hul h0 hr hv
    · exact deed_set0 I W h hv
  all_goals subst h
  all_goals cases hk : kdfHas st.pairs key
  · exact deed_get0 I W hk
  · exact deed_get I W hk
  · exact deed_ask I W
  · exact deed_ask I W
  · exact deed_cget0 I W hk
  · exact deed_cget I W hk
  · exact deed_pop0 I W hk
  · exact deed_pop I W hk hc5
  · by_cases hv : 0 ≤ (if st.sz then sizeOf value else 1) ∧ (if st.sz then sizeOf value else 1) ≤ st.room
    · exact deed_sdef1 I W hk hc5 H hul h0 hr hv
    · exact deed_sdef0 I W hk hv
  · exact deed_sdef I W hk
  · exact deed_del0 I W hk
  · exact deed_del I W hk hc5
  · by_cases hp : st.pairs = []
    · exact deed_popitem0 I W hp
    · exact deed_popitem I W hp hc5 H (by omega) h0
  · by_cases hp : st.pairs = []
    · exact deed_popitem0 I W hp
    · exact deed_popitem I W hp hc5 H (by omega) h0
  · by_cases hv : value % 4 = 0
    · exact deed_clear I W hc5 hv
    · exact deed_take0 I W hk hv
  · by_cases hv : value % 4 = 0
    · exact deed_clear I W hc5 hv
    · exact deed_take I W hk hc5 hv
end
section
open LCg LCt in
theorem without_spec {w : World} {r : List (Addr × Obj)} {v : Value} {pairs : List (Int × Int)} {key : Int} {t : Tok} (hv : DatIn r v (PD pairs)) (hlen : pairs.length ≤ 1000) : NSpec w 4 239 [v, .int key t] r fun x l => DatIn l x (PD (delI pairs key)) := by
  obtain ⟨pa, vs, n, rfl, hm, hall⟩ := dat_list hv
  have hvl : vs.length = pairs.length := by have := hall.length; rw [List.length_map] at this; exact this
  intro A s g L m R p loose mean mg mb F N X T hd hu hh hret
  refine' enterMC ?k1 ?k2 ?k3 ?k4 ?k6 ?k7 ?k8 ?k9 ?kB ?kD ?_ ?c2 ?c3 ?c4; (case k1 => assumption); (case k2 => assumption); (case k3 => assumption); (case k4 => assumption); (case k6 => k_is); (case k7 => k_is); (case k8 => first | exact roomA hd | ((try simp only [depth_deeper, depth_in1] at *); omega)); (case k9 => first | exact BindsTo.of_eq rfl | exact binds_K (by k_in) rfl (by k_is) rfl rfl rfl); (case kB => exact rfl); (case kD => decide +kernel); (case c2 => exact rfl); (case c3 => exact rfl); (case c4 => exact rfl); k_whole
  intro g' L' h₁ tk₀ cells F' N' Y' X' T' hg l1 EE
  k_cells Y'
  try simp only [List.cons_append, List.nil_append] at N'
  try k_lt l1
  k_steps
  rename_i oc d1
  refine LCt.ListComp_T (F₀ := by k_asm) (by with_unfolding_all rfl) (by decide) (by rfl) (by decide) (by rfl) ?_
  k_steps
  refine LCt.CompSrcT.ledger hh (by assumption) (by assumption) (.tail _ hm) (by rw [sizeLine_eq, List.size_toArray]; omega) ?_
  intro gg
  refine restT (fun i ys news => news = (L' + 1, oc) :: r ∧ DatAll r ys ((delI (pairs.take i) key).map fun p => .tuple [.int p.1, .int p.2])) ?fin ?step _ 0 [] _ (Nat.zero_add _) ⟨rfl, .nil⟩
  case step =>
    intro i ys news v I oI C oC D m₂ h tk E' hi hPq hP hC hx F2 N2 o3 ne
    obtain ⟨rfl, hys⟩ := hPq
    obtain ⟨a, n1, k1, x1, t1, u1, hpi, rfl, hm2⟩ := pair_at hall (by simpa using hP)
    k_steps
    · refine ⟨_, _, _, rfl, by assumption, by assumption, o3, .inr ⟨_, .tail _ hm, rfl, _, rfl⟩, rfl, ?_⟩
      rw [take_at hpi, del_snoc, if_pos (by assumption), List.map_append]
      exact hys.append (.one (.tuple hm2 (.cons (.int _ _) (.cons (.int _ _) .nil))))
    · refine ⟨_, _, _, rfl, by assumption, by assumption, o3, .inr ⟨_, .tail _ hm, rfl, _, rfl⟩, rfl, ?_⟩
      rw [take_at hpi, del_snoc, if_neg (not_not_intro (by assumption))]
      exact hys
  case fin =>
    intro ys news hPq D h tk F3 N3 o1
    obtain ⟨rfl, hys⟩ := hPq
    rw [List.size_toArray, hvl, List.take_length] at hys
    have hl : ∀ q ∈ r, q ∈ (D, lst ys) :: (L' + 1, oc) :: r := fun q hq => .tail _ (.tail _ hq)
    obtain ⟨q1, q2, q3⟩ := backN F N hg F3 N3 hl
    exact hret _ _ _ _ hl (.list (.head _) (hys.mono hl)) q1 q2 q3
end
section
theorem value_spec {w : World} {r : List (Addr × Obj)} {v : Value} {pairs : List (Int × Int)} {key : Int} {t : Tok} (hv : DatIn r v (PD pairs)) (hlen : pairs.length ≤ 1000) :
    NSpec w 4 246 [v, .int key t] r fun x l => DatIn l x (.list (if kdfHas pairs key = true then [.int (kdfLook pairs key 0)] else [])) := by
  obtain ⟨pa, vs, n, rfl, hm, hall⟩ := dat_list hv
  have hvl : vs.length = pairs.length := by have := hall.length; rw [List.length_map] at this; exact this
  intro A s g L m R p loose mean mg mb F N X T hd hu hh hret
  ktr_enter
  intro g' L' h₁ F' N' X' T' hg EE
  refine wpAny_mono (E := fun _ _ => False) ?_ (fun _ _ h => h) (fun _ _ h => h.elim)
  k_steps
  refine For_invV g' (by exact rfl) (by exact rfl) ?_ (by intro _; rfl) PassesOwn.never
  k_steps
  rename Fr g' _ _ _ => kF
  rename News g' _ _ _ => kN
  refine kdl_iter (fun i m₁ news₁ => ∃ u, (∀ y, m₁ y = if y = Str.ofString "pair" then u else List.lookup y [(Str.ofString "key", Value.int key t), (Str.ofString "pairs", .ref pa)]) ∧ news₁ = r ∧ kdfHas (pairs.take i) key = false) hh hm kF kN ⟨none, ?_, rfl, rfl⟩ ?_ ?_
  · intro y
    by_cases h1 : y = Str.ofString "pair"
    · rw [if_pos h1, h1]; rfl
    · rw [if_neg h1]; rfl
  · intro i v m₁ news₁ h tk own hi hoff hml hPq F1 N1
    obtain ⟨u, hm₁, rfl, hno⟩ := hPq
    obtain ⟨a, n1, k1, x1, t1, u1, hpi, rfl, hm2⟩ := pair_at hall hi
    have F2 := fr_cong F1 (m' := fun y => if y = Str.ofString "pair" then some (.ref a) else if y = Str.ofString "key" then some (.int key t) else if y = Str.ofString "pairs" then some (.ref pa) else none) (fun y => by
      by_cases h1 : y = Str.ofString "pair"
      · rw [if_pos h1, if_pos h1]
      · rw [if_neg h1, if_neg h1, hm₁, if_neg h1]
        by_cases h2 : y = Str.ofString "key"
        · rw [if_pos h2, h2]; rfl
        · rw [if_neg h2]
          by_cases h3 : y = Str.ofString "pairs"
          · rw [if_pos h3, h3]; rfl
          · rw [if_neg h3, List.lookup_cons, beq_eq_false_iff_ne.mpr h2]
            dsimp only
            rw [List.lookup_cons, beq_eq_false_iff_ne.mpr h3]; rfl)
    clear F1
    have hm3 : (a, tupOf [.int k1 t1, .int x1 u1] n1) ∈ news₁ ++ own := List.mem_append_left _ hm2
    k_steps
    · rename k1 = key => hkk
      subst hkk
      dsimp only [InvPostG]
      rename Fr g' _ _ _ => kF2
      rename News g' _ _ _ => kN2
      obtain ⟨q1, q2, q3⟩ := backN F N hg kF2 kN2 sub2
      refine hret _ _ _ _ sub2 ?_ q1 q2 q3
      rw [if_pos (has_take hpi), look_first hpi hno]
      exact .list (.head _) (.cons (.int _ _) .nil)
    · rename ¬ k1 = key => hkk
      refine InvEndG.intro F2 (by assumption) ⟨hml, some (.ref a), ?_, rfl, ?_⟩ hoff (fun p hp => List.mem_append_left _ hp) (fun p hp => List.mem_append_right _ hp)
      · intro y
        dsimp only
        by_cases h1 : y = Str.ofString "pair"
        · rw [if_pos h1, if_pos h1]
        · rw [if_neg h1, if_neg h1, List.lookup_cons]
          by_cases h2 : y = Str.ofString "key"
          · rw [if_pos h2, h2]; rfl
          · rw [if_neg h2, beq_eq_false_iff_ne.mpr h2]
            dsimp only
            rw [List.lookup_cons]
            by_cases h3 : y = Str.ofString "pairs"
            · rw [if_pos h3, h3]; rfl
            · rw [if_neg h3, beq_eq_false_iff_ne.mpr h3]; rfl
      · rw [take_at hpi, has_snoc, hno, decide_eq_false hkk]; rfl
  · intro m₁ news₁ h tk hPq F1 N1
    obtain ⟨u, hm₁, rfl, hno⟩ := hPq
    k_steps
    rename Fr g' _ _ _ => kF2
    rename News g' _ _ _ => kN2
    obtain ⟨q1, q2, q3⟩ := backN F N hg kF2 kN2 sub1
    refine hret _ _ _ _ sub1 ?_ q1 q2 q3
    rw [hvl, List.take_length] at hno
    rw [if_neg (by rw [hno]; decide)]
    exact .list (.head _) .nil
end
section
theorem picked_spec {w : World} {r : List (Addr × Obj)} {na nb : Addr} {vs1 vs2 : List Value} {n1 n2 k : Nat} {names nums : List Int} {t : Tok} (hm1 : (na, listOf vs1.toArray n1) ∈ r) (hi1 : IntsAre vs1 names) (hm2 : (nb, listOf vs2.toArray n2) ∈ r) (hi2 : IntsAre vs2 nums)
    (hne : names ≠ []) (hnn : nums ≠ []) (hl1 : names.length ≤ 50) (hl2 : nums.length ≤ 50) : NSpec w 4 258 [.ref na, .ref nb, .int (k : Nat) t] r fun x l => ∃ t', x = .int (picked names nums k) t' := by
  have p1 : 0 < names.length := List.length_pos_iff.mpr hne
  have p2 : 0 < nums.length := List.length_pos_iff.mpr hnn
  have l1' : names.length ≤ 1000 := by omega
  have l2' : nums.length ≤ 1000 := by omega
  have l3' : (sortI names).length ≤ 1000 := by rw [sortI_length]; omega
  obtain ⟨a1, a2⟩ := fmod_lt (a := (k : Int)) (b := (nums.length : Int)) (by omega)
  have e1 : ((k : Int).fmod (nums.length : Int)).toNat = k % nums.length := by
    rw [Int.fmod_eq_emod_of_nonneg _ (by omega)]; omega
  obtain ⟨b1, b2⟩ := fmod_lt (a := nums.getD ((k : Int).fmod (nums.length : Int)).toNat 0) (b := (names.length : Int)) (by omega)
  have b3 : (nums.getD ((k : Int).fmod (nums.length : Int)).toNat 0).fmod (names.length : Int) < ((sortI names).length : Int) := by rw [sortI_length]; exact b2
  intro A s g L m R p loose mean mg mb F N X T hd hu hh hret
  ktr_enter
  intro g' L' h₁ F' N' X' T' hg EE
  k_steps
  rename Fr g' _ _ _ => kF
  rename News g' _ _ _ => kN
  obtain ⟨q1, q2, q3⟩ := backN F N hg kF kN sub1
  refine hret _ _ (.int _ _) _ sub1 ⟨_, congrArg (fun z => Value.int z _) ?_⟩ q1 q2 q3
  unfold picked
  rw [e1, Int.fmod_eq_emod_of_nonneg _ (by omega)]
end
section
open LCg in
theorem room_spec {w : World} {r : List (Addr × Obj)} {v : Value} {pairs : List (Int × Int)} {sz : Bool} (hv : DatIn r v (PD pairs)) (hlen : pairs.length ≤ 1000) : NSpec w 6 251 [v, .bool sz] r fun x l => ∃ t', x = .int (roomOf sz pairs) t' := by
  obtain ⟨pa, vs, n, rfl, hm, hall⟩ := dat_list hv
  have hvl : vs.length = pairs.length := by have := hall.length; rw [List.length_map] at this; exact this
  intro A s g L m R p loose mean mg mb F N X T hd hu hh hret
  refine' enterMC ?k1 ?k2 ?k3 ?k4 ?k6 ?k7 ?k8 ?k9 ?kB ?kD ?_ ?c2 ?c3 ?c4; (case k1 => assumption); (case k2 => assumption); (case k3 => assumption); (case k4 => assumption); (case k6 => k_is); (case k7 => k_is); (case k8 => first | exact roomA hd | ((try simp only [depth_deeper, depth_in1] at *); omega)); (case k9 => first | exact BindsTo.of_eq rfl | exact binds_K (by k_in) rfl (by k_is) rfl rfl rfl); (case kB => exact rfl); (case kD => decide +kernel); (case c2 => exact rfl); (case c3 => exact rfl); (case c4 => exact rfl); k_whole
  intro g' L' h₁ tk₀ cells F' N' Y' X' T' hg l1 EE
  k_cells Y'
  try simp only [List.cons_append, List.nil_append] at N'
  try k_lt l1
  k_steps
  rename_i oc d1
  refine CompSrc.ledger hh (by assumption) (by assumption) (.tail _ hm) (by rw [sizeLine_eq, List.size_toArray]; omega) ?_
  intro gg
  refine restU (fun i ys news => news = (L' + 1, oc) :: r ∧ IntsAre ys ((pairs.take i).map fun p => if sz then sizeOf p.2 else 1)) ?fin ?step _ 0 [] _ (Nat.zero_add _) ⟨rfl, .nil⟩
  case step =>
    intro i ys news v I oI C oC D m₂ h tk E' hi hPq hP hC hx F2 N2 o3 ne
    obtain ⟨rfl, hys⟩ := hPq
    obtain ⟨a, n1, k1, x1, t1, u1, hpi, rfl, hm2⟩ := pair_at hall (by simpa using hP)
    cases sz
    · k_steps
      refine ⟨_, _, _, rfl, by assumption, by assumption, o3, .inr ⟨_, .tail _ hm, rfl, _, rfl⟩, rfl, ?_⟩
      rw [take_at hpi, List.map_append]
      exact ints_append hys (.cons _ _ .nil)
    · k_steps
      refine (size_spec).use (by assumption) (by assumption) (by assumption) (by assumption) (by first | exact roomD hd rfl | (simp only [depth_deeper, depth_in1]; omega)) (by first | exact roomU hu rfl | exact roomU1 hu rfl | (simp only [units_deeper, units_in1]; omega)) hh trivial ?_
      intro h2 tk2 v2 hPq F3 N3 M3 G3
      obtain ⟨ts, rfl⟩ := hPq
      k_steps
      refine ⟨_, _, _, rfl, by assumption, by assumption, o3, .inr ⟨_, .tail _ hm, rfl, _, rfl⟩, rfl, ?_⟩
      rw [take_at hpi, List.map_append]
      exact ints_append hys (.cons _ _ .nil)
  case fin =>
    intro ys news hPq D h tk F3 N3 o1
    obtain ⟨rfl, hys⟩ := hPq
    rw [List.size_toArray, hvl, List.take_length] at hys
    k_steps
    rename Fr g' _ _ _ => kF
    rename News g' _ _ _ => kN
    have hl : ∀ q ∈ r, q ∈ (D, lst ys) :: (L' + 1, oc) :: r := fun q hq => .tail _ (.tail _ hq)
    obtain ⟨q1, q2, q3⟩ := backN F N hg kF kN hl
    exact hret _ _ _ _ hl ⟨_, rfl⟩ q1 q2 q3
end
section
/-- what the closure needs of the heap -/
def ChH (base : Heap) (fch c' : Addr) (fo : Obj) (ex : List (Addr × Obj)) (h : Heap) : Prop :=
  (∀ b o, base.get? b = some o → h.get? b = some o) ∧ h.get? fch = some fo ∧ (∃ oc vs t, h.get? c' = some oc ∧ oc.data = .fields vs ∧ vs[1]? = some (.str "law.<locals>._law_choose" t)) ∧ ∀ q ∈ ex, h.get? q.1 = some q.2
theorem choose_ch {w : World} {base : Heap} {p₀ : Program} {loose₀ : List Str} {mean₀ : ExcName → Option Value} {mg₀ mb₀ : Str → Option Value} (X₀ : (KK w.params).In base) (T₀ : Top p₀ loose₀ mean₀ mg₀ mb₀ base) {c : CL} {fch cn cs nb c' : Addr} {ocn ocs : Obj} {doc pm ctv : Value} {vq : List Value} {nq : Nat} {nums : List Int}
    (hn : ocn.data = .cell (some (.ref nb))) (hs : ocs.data = .cell (some (.ref c.al))) (hi2 : IntsAre vq nums) (hnn : nums ≠ []) (hl2 : nums.length ≤ 50)
    (off : ∀ a ∈ [fch, c', cn, cs, nb], a ∉ c.adr) (fresh : ∀ a ∈ c.adr ++ [cn, cs, nb], base.get? a = none) :
    ChS w c fch nums (ChH base fch c' (chObj [("seen", cs), ("numbers", cn)] doc pm c' ctv) [(cn, ocn), (cs, ocs), (nb, listOf vq.toArray nq)]) where
  keep := by
    rintro h h' M ⟨k1, k2, ⟨oc, vs, t, k3, k4⟩, k5⟩
    refine ⟨fun b o e => M b o (fun q => ?_) (k1 b o e), M _ _ (off _ (.head _)) k2, ⟨oc, vs, t, M _ _ (off _ (.tail _ (.head _))) k3, k4⟩, fun q hq => M _ _ (off _ ?_) (k5 q hq)⟩
    · rw [fresh b (List.mem_append_left _ q)] at e; cases e
    · simp only [List.mem_cons, List.not_mem_nil, or_false] at hq ⊢
      rcases hq with rfl | rfl | rfl <;> simp
  fn := fun h k => ⟨_, _, _, _, k.2.1⟩
  call := by
    intro o st I hfch hne hlen hus
    intro A s g L m R p loose mean mg mb F N X T hd hu hh hpre hret
    obtain ⟨hb, hf, ⟨oc, cvs, ct, hc1, hc2, hc3⟩, hex⟩ := hpre
    refine' enterX X₀ T₀ hb (led := c.led o ++ [(cn, ocn), (cs, ocs), (nb, listOf vq.toArray nq)]) ?N hf (by exact rfl) ⟨c', oc, cvs, ct, rfl, hc1, hc2, hc3⟩ ?k8 ?k9 ?kB ?_ ?c2 ?c3 ?c4 ?c5; (case k8 => ((try simp only [depth_deeper, depth_in1] at *); omega)); (case k9 => first | exact BindsTo.of_eq rfl | exact binds_K (by k_in) rfl (by k_is) rfl rfl rfl); (case kB => exact locs rfl); (case c2 => exact rfl); (case c3 => exact rfl); (case c4 => exact rfl); (case c5 => decide); k_whole
    case N =>
      intro q hq
      rcases List.mem_append.mp hq with z | z
      · exact ⟨(N q z).1, fresh _ (List.mem_append_left _ (led_adr c o ▸ List.mem_map_of_mem z))⟩
      · refine ⟨hex q z, fresh _ (List.mem_append_right _ ?_)⟩
        simp only [List.mem_cons, List.not_mem_nil, or_false] at z ⊢
        rcases z with rfl | rfl | rfl <;> simp
    intro g' L' h₁ F' N' X' T' hg l1 EE
    have I0 := I
    obtain ⟨x, dx, ad, az, ai, ak, al⟩ := c
    obtain ⟨es, n, oD, oZ, oI, vs, nk, us, ns⟩ := o
    have od0 : OD ⟨x, dx, ad, az, ai, ak, al⟩ st es := I.od
    obtain ⟨nd, ⟨gD, gZ, gG, ⟨tC, gC⟩, ⟨tM, gM⟩, gF, gI, gK, n1, n2, n3, n4, n5, n6, n7, hes⟩, hD, hZ, hI, hK, lo1, lo2, lo3⟩ := I
    dsimp only [CL.led, CL.adr] at *
    have ⟨⟨x1, x2, x3, x4, x5, x6⟩, ⟨y1, y2, y3, y4, y5⟩, ⟨z1, z2, z3, z4⟩, ⟨w1, w2, w3⟩, ⟨v1, v2⟩, u1⟩ := nd7 nd
    dsimp only [List.cons_append, List.nil_append] at N'
    have hus2 : us.length ≤ 1000 := Nat.le_trans hus (by decide)
    iterate 3 (first | (dsimp only; walk1) | walk1)
    refine nameX_F (x := Str.ofString "seen") (o := ocs) N' lk_seen (by simp only [List.mem_cons, true_or, or_true]) hs ?_
    iterate 9 (first | (dsimp only; walk1) | walk1)
    refine l_sorted (n := nk) (vs := vs) (by assumption) N' (by simp only [List.mem_cons, true_or, or_true]) hK (Nat.le_trans hlen (by decide)) ?_
    intro D0 v0 c0 h0 kF kN L0 hso
    walk1
    have d1 : al ≠ D0 := Nat.ne_of_lt (L0 (al, listOf us.toArray ns) (by simp only [List.mem_cons, true_or, or_true]))
    have hus3 : (us ++ [Value.ref D0]).length ≤ 1000 := by rw [List.length_append, List.length_singleton]; exact Nat.le_trans (Nat.add_le_add_right hus 1) (by decide)
    have hin : al ∈ [x, dx, ad, az, ai, ak, al] := by simp only [List.mem_cons, true_or, or_true]
    have e1 : al ≠ cn := fun q => off cn (.tail _ (.tail _ (.head _))) (q ▸ hin)
    have e2 : al ≠ cs := fun q => off cs (.tail _ (.tail _ (.tail _ (.head _)))) (q ▸ hin)
    have e3 : al ≠ nb := fun q => off nb (.tail _ (.tail _ (.tail _ (.tail _ (.head _))))) (q ▸ hin)
    refine' l_pushv (n := ns) kF kN hus2 ?U ?_
    case U => k_upd
    intro h2 F2 N2
    iterate 9 (first | (dsimp only; walk1) | walk1)
    refine nameX_F (x := Str.ofString "numbers") (o := ocn) N2 lk_num (by simp only [List.mem_cons, true_or, or_true]) hn ?_
    iterate 6 (first | (dsimp only; walk1) | walk1)
    refine nameX_F (x := Str.ofString "seen") (o := ocs) N2 lk_seen (by simp only [List.mem_cons, true_or, or_true]) hs ?_
    k_steps
    have e5 : (((us ++ [Value.ref D0]).length : Nat) : Int) - 1 = ((us.length : Nat) : Int) := by rw [List.length_append, List.length_singleton]; omega
    rw [e5]
    rename News g' _ _ _ => kNn
    refine (picked_spec (na := ak) (n1 := nk) (nb := nb) (n2 := nq) (by simp only [List.mem_cons, true_or, or_true]) hK (by simp only [List.mem_cons, true_or, or_true]) hi2 hne hnn (Nat.le_trans hlen (by decide)) hl2).use (by assumption) kNn (by assumption) (by assumption) (by first | exact roomD hd rfl | (simp only [depth_deeper, depth_in1]; omega)) (by first | exact roomU hu rfl | exact roomU1 hu rfl | (simp only [units_deeper, units_in1]; omega)) hh ?_
    intro h4 tk4 v4 l4 hPq hs4 F4 N4 M4
    obtain ⟨t4, rfl⟩ := hPq
    obtain ⟨q1, q2, q3⟩ := backX (c := ⟨x, dx, ad, az, ai, ak, al⟩) (o := ⟨es, n, oD, oZ, oI, vs, nk, us, ns⟩) (o' := ⟨es, n, oD, oZ, oI, vs, nk, us ++ [Value.ref D0], ns + 1⟩) (ex := [(cn, ocn), (cs, ocs), (nb, listOf vq.toArray nq)]) F N hex hg F4 N4 (fun q hq => List.mem_append_left l4 (.tail _ (List.mem_append_left (bs := [(cn, ocn), (cs, ocs), (nb, listOf vq.toArray nq)]) hq))) (fun q hq => List.mem_append_left l4 (.tail _ (List.mem_append_right (CL.led ⟨x, dx, ad, az, ai, ak, al⟩ ⟨es, n, oD, oZ, oI, vs, nk, us ++ [Value.ref D0], ns + 1⟩) hq)))
    refine hret _ _ _ ⟨es, n, oD, oZ, oI, vs, nk, us ++ [Value.ref D0], ns + 1⟩ ⟨⟨_, rfl⟩, ⟨I0.nd, I0.od, I0.data, I0.size, I0.idx, I0.keys, I0.lo1, I0.lo2, I0.lo3⟩, D0, rfl, fresh_of hg N4 (List.mem_append_left _ (.head _)) (fun q => ?_), v0, c0, (N4 _ (List.mem_append_left _ (.head _))).1, hso⟩ q1 q2 q3
    obtain ⟨z, hz, e⟩ := List.mem_map.mp q
    exact absurd (L0 z hz) (by rw [e]; exact Nat.lt_irrefl _)
end
section
inductive PInv (r : List (Addr × Obj)) (nums : List Int) (sz : Bool) (room key size : Int) (pairs : List (Int × Int)) (shown : List (List Int)) (e1 e2 : Addr × Obj) (mm : Value → Value → Option Value → Str → Option Value) (n : Nat) (m₁ : Str → Option Value) (news₁ : List (Addr × Obj)) : Prop
  | mk (vp vs' : Value) (u : Option Value) (p' : List (Int × Int)) (sh' : List (List Int)) (l : List (Addr × Obj)) (em : m₁ = mm vp vs' u) (en : news₁ = e1 :: e2 :: l) (J : PutI r nums sz room key size pairs shown n vp vs' p' sh' l)
theorem put_spec {w : World} {r : List (Addr × Obj)} {v vsh : Value} {nb : Addr} {vs2 : List Value} {n2 : Nat} {nums : List Int} {pairs : List (Int × Int)} {shown : List (List Int)} {room key value : Int} {sz : Bool} {tr tk tv : Tok}
    (hv : DatIn r v (PD pairs)) (hsh : DatIn r vsh (SD shown)) (hm2 : (nb, listOf vs2.toArray n2) ∈ r) (hi2 : IntsAre vs2 nums) (hlen : pairs.length ≤ 5) (hnn : nums ≠ []) (hl2 : nums.length ≤ 50) (hl3 : shown.length ≤ 500) (hnd : (pairs.map (·.1)).Nodup)
    (hok : 0 ≤ (if sz then sizeOf value else 1) ∧ (if sz then sizeOf value else 1) ≤ room) :
    NSpec w 20 263 [v, vsh, .ref nb, .int room tr, .bool sz, .int key tk, .int value tv] r fun x l =>
      DatIn l x (.tuple [.list [], PD (kdfPut (evict sz room nums key (if sz then sizeOf value else 1) pairs.length pairs shown).1 key value), SD (evict sz room nums key (if sz then sizeOf value else 1) pairs.length pairs shown).2]) := by
  intro A s g L m R p loose mean mg mb F N X T hd hu hh hret
  refine' enterMC ?k1 ?k2 ?k3 ?k4 ?k6 ?k7 ?k8 ?k9 ?kB ?kD ?_ ?c2 ?c3 ?c4; (case k1 => assumption); (case k2 => assumption); (case k3 => assumption); (case k4 => assumption); (case k6 => k_is); (case k7 => k_is); (case k8 => first | exact roomA hd | ((try simp only [depth_deeper, depth_in1] at *); omega)); (case k9 => first | exact BindsTo.of_eq rfl | exact binds_K (by k_in) rfl (by k_is) rfl rfl rfl); (case kB => exact rfl); (case kD => decide +kernel); (case c2 => exact rfl); (case c3 => exact rfl); (case c4 => exact rfl); k_whole
  intro g' L' h₁ tk₀ cells F' N' Y' X' T' hg l1 EE
  k_cells Y'
  try simp only [List.cons_append, List.nil_append] at N'
  try k_lt l1
  refine wpAny_mono (E := fun _ _ => False) ?_ (fun _ _ h => h) (fun _ _ h => h.elim)
  rename_i oc1 oc2 d1 d2
  obtain ⟨hok1, hok2⟩ := hok
  iterate 2 walk1
  refine wpAny_mono (Q := fun v s' => ∃ h t tk, v = .int (if sz then sizeOf value else 1) t ∧ s' = { s with heap := h, toks := tk } ∧ ∀ b o, h₁.get? b = some o → h.get? b = some o) ?_ ?_ (fun _ _ h => h)
  · cases sz
    · k_steps
      all_goals exact ⟨_, _, _, rfl, rfl, fun _ _ e => e⟩
    · k_steps
      refine (size_spec).use (by assumption) (by assumption) (by assumption) (by assumption) (by first | exact roomD hd rfl | (simp only [depth_deeper, depth_in1]; omega)) (by first | exact roomU hu rfl | exact roomU1 hu rfl | (simp only [units_deeper, units_in1]; omega)) hh trivial ?_
      intro h2 tk2 v2 hPq F3 N3 M3 G3
      obtain ⟨ts, rfl⟩ := hPq
      try dsimp only
      exact ⟨_, _, _, rfl, rfl, M3⟩
  rintro v1 s1 ⟨h, tz, tk1, rfl, rfl, M1⟩
  replace F' := F'.keeps M1
  replace N' := N'.grown M1
  generalize hsz : (if sz then sizeOf value else 1) = size at *
  k_steps
  rename Fr g' _ _ _ => kF
  rename News g' _ _ _ => kN
  have kF2 := fr_cong kF (m' := fun y => if y = Str.ofString "size" then some (.int size tz) else if y = Str.ofString "sized" then some (.bool sz) else if y = Str.ofString "room" then some (.int room tr) else if y = Str.ofString "numbers" then some (.ref nb) else if y = Str.ofString "shown" then some vsh else if y = Str.ofString "pairs" then some v else none) (fun y => by with_unfolding_all rfl)
  refine While_inv (PInv r nums sz room key size pairs shown (L' + 1 + 1, oc1) (L' + 1, oc2) (fun vp vs' u y => if y = Str.ofString "shown" then some vs' else if y = Str.ofString "pairs" then some vp else if y = Str.ofString "names" then u else if y = Str.ofString "size" then some (.int size tz) else if y = Str.ofString "sized" then some (.bool sz) else if y = Str.ofString "room" then some (.int room tr) else if y = Str.ofString "numbers" then some (.ref nb) else none)) (n₀ := pairs.length) (fr_cong kF2 (m' := fun y => if y = Str.ofString "shown" then some vsh else if y = Str.ofString "pairs" then some v else if y = Str.ofString "names" then none else if y = Str.ofString "size" then some (.int size tz) else if y = Str.ofString "sized" then some (.bool sz) else if y = Str.ofString "room" then some (.int room tr) else if y = Str.ofString "numbers" then some (.ref nb) else none) ?fr) kN ⟨v, vsh, none, pairs, shown, r, rfl, rfl, ⟨fun _ h => h, hv, hsh, rfl, rfl, hnd, Nat.le_refl _, hlen⟩⟩ ?turn PassesOwn.never
  case fr =>
    intro y
    by_cases h1 : y = Str.ofString "shown"
    · subst h1; rfl
    by_cases h2 : y = Str.ofString "pairs"
    · subst h2; rfl
    by_cases h3 : y = Str.ofString "names"
    · subst h3; rfl
    simp only [if_neg h1, if_neg h2, if_neg h3]
  case turn =>
    rintro n m₁ news₁ h₁ tk₁ F₁ N₁ ⟨vp, vs', u, p', sh', l, rfl, rfl, J⟩
    have hp5 := J.five
    obtain ⟨pa, ws, np, rfl, hmp, hallp⟩ := dat_list J.hp
    have hwl : ws.length = p'.length := by have := hallp.length; rw [List.length_map] at this; exact this
    obtain ⟨sa, us, nu, rfl, hms, hallS⟩ := dat_list J.hs
    have hul : us.length = sh'.length := by have := hallS.length; rw [List.length_map] at this; exact this
    have hul2 : us.length ≤ 1000 := by have := J.len; omega
    k_steps
    rename News g' _ _ _ => kNn
    refine (without_spec (J.hp.mono fun q hq => .tail _ (.tail _ hq)) (by omega)).use (by assumption) kNn (by assumption) (by assumption) (by first | exact roomD hd rfl | (simp only [depth_deeper, depth_in1]; omega)) (by first | exact roomU hu rfl | exact roomU1 hu rfl | (simp only [units_deeper, units_in1]; omega)) hh ?_
    rintro h2 tk2 v2 l2 hD2 hs2 F2 N2 M2
    simp only [List.cons_append] at N2
    k_steps
    rename News g' _ _ _ => kNn
    refine (room_spec (sz := sz) (hD2.mono fun q hq => .tail _ (.tail _ (List.mem_append_right _ hq))) (Nat.le_trans (List.length_filter_le _ _) (by omega))).use (by assumption) kNn (by assumption) (by assumption) (by first | exact roomD hd rfl | (simp only [depth_deeper, depth_in1]; omega)) (by first | exact roomU hu rfl | exact roomU1 hu rfl | (simp only [units_deeper, units_in1]; omega)) hh ?_
    intro h3 tk3 v3 l3 hPq hs3 F3 N3 M3
    obtain ⟨t3, rfl⟩ := hPq
    simp only [List.cons_append, List.append_assoc] at N3
    k_steps
    ·
      refine LCg.Assign_ListComp_U (F₀ := by k_asm) (by rfl) (by with_unfolding_all rfl) (by with_unfolding_all rfl) (by decide) (by rfl) (by decide) (by rfl) (by rfl) (by rfl) ?_
      k_steps
      rename Fr g' _ _ _ => kF4
      rename News g' _ _ _ => kN4
      refine LCg.CompSrc.ledger hh kF4 kN4 (.tail _ (.tail _ (List.mem_append_left _ hmp))) (by rw [sizeLine_eq, List.size_toArray]; omega) ?_
      intro gg
      refine restU (fun i ys news => news = _ ∧ IntsAre ys ((p'.take i).map (·.1))) ?fin ?step _ 0 [] _ (Nat.zero_add _) ⟨rfl, .nil⟩
      case step =>
        intro i ys news vv I oI C oC D m₂ h tk E' hi hPq hP hC hx F5 N5 o3 ne
        obtain ⟨rfl, hys⟩ := hPq
        obtain ⟨a, n1, k1, x1, t1, u1, hpi, rfl, hm5⟩ := pair_at hallp (by simpa using hP)
        have hm6 := List.mem_append_left (l2 ++ l3) hm5
        k_steps
        refine ⟨_, _, _, rfl, by assumption, by assumption, o3, .inr ⟨_, .tail _ (.tail _ (List.mem_append_left _ hmp)), rfl, _, rfl⟩, rfl, ?_⟩
        rw [take_at hpi, List.map_append]
        exact ints_append hys (.cons _ _ .nil)
      case fin =>
        intro ys news hPq D h tk F5 N5 o1
        obtain ⟨rfl, hys⟩ := hPq
        rw [List.size_toArray, hwl, List.take_length] at hys
        have hcond : roomOf sz (delI p' key) + size > room := by omega
        have hne : p'.map (·.1) ≠ [] := by
          intro e
          have e0 : p' = [] := by simpa using e
          rw [e0] at hcond; unfold delI roomOf at hcond; simp at hcond; omega
        k_steps
        rename News g' _ _ _ => kNn
        refine (picked_spec (.head _) hys (.tail _ (.tail _ (.tail _ (List.mem_append_left _ (J.sub _ hm2))))) hi2 hne hnn (by rw [List.length_map]; omega) hl2).use (by assumption) kNn (by assumption) (by assumption) (by first | exact roomD hd rfl | (simp only [depth_deeper, depth_in1]; omega)) (by first | exact roomU hu rfl | exact roomU1 hu rfl | (simp only [units_deeper, units_in1]; omega)) hh ?_
        intro h4 tk4 v4 l4 hPq hs4 F4 N4 M4
        obtain ⟨t4, rfl⟩ := hPq
        simp only [List.cons_append, List.append_assoc] at N4
        k_steps
        rename News g' _ _ _ => kNn
        refine (without_spec (J.hp.mono fun q hq => .tail _ (.tail _ (.tail _ (List.mem_append_left _ hq)))) (by omega)).use (by assumption) kNn (by assumption) (by assumption) (by first | exact roomD hd rfl | (simp only [depth_deeper, depth_in1]; omega)) (by first | exact roomU hu rfl | exact roomU1 hu rfl | (simp only [units_deeper, units_in1]; omega)) hh ?_
        rintro h5 tk5 v5 l5 hD5 hs5 F5' N5' M5
        simp only [List.cons_append, List.append_assoc] at N5'
        have hnl : (p'.map (·.1)).length ≤ 50 := by rw [List.length_map]; omega
        k_steps
        rename List.Pairwise _ _ => hpw
        rename List.Perm _ _ => hpm
        rename IntsAre _ _ => hso
        rw [sortI_uniq hpm hpw] at hso
        rename Fr g' _ _ _ => kF6
        rename News g' _ _ _ => kN6
        refine l_add kF6 kN6 (.tail _ (.tail _ (.tail _ (.tail _ (.tail _ (List.mem_append_left _ hms)))))) (.head _) hul2 (by simp) ?_
        intro D6 h6 F6 N6 L6
        k_steps
        rename Fr g' _ _ _ => kF7
        rename News g' _ _ _ => kN7
        obtain ⟨lf, hlf, kN8⟩ := news_list kN7
        have hsub : ∀ q ∈ l, q ∈ lf := fun q hq => by
          rw [hlf]; exact .tail _ (.tail _ (.tail _ (.tail _ (.tail _ (.tail _ (List.mem_append_left _ hq))))))
        have hc1 : ((L' + 1 + 1, oc1) : Addr × Obj) ∈ lf := by rw [hlf]; exact .tail _ (.tail _ (.tail _ (.tail _ (.head _))))
        have hc2 : ((L' + 1, oc2) : Addr × Obj) ∈ lf := by rw [hlf]; exact .tail _ (.tail _ (.tail _ (.tail _ (.tail _ (.head _)))))
        have hs9 : DatIn lf (.ref D6) (SD (sh' ++ [sortI (p'.map (·.1))])) := by
          refine .list (by rw [hlf]; exact .head _) ?_
          rw [List.map_append]
          exact (hallS.mono hsub).append (.one (.list (by rw [hlf]; exact .tail _ (.tail _ (.head _))) (ints_dat hso)))
        have hp9 : DatIn lf v5 (PD (delI p' (picked (p'.map (·.1)) nums sh'.length))) := by
          rw [← hul]
          refine hD5.mono fun q hq => ?_
          rw [hlf]
          exact .tail _ (.tail _ (.tail _ (.tail _ (.tail _ (.tail _ (List.mem_append_right _ (List.mem_append_right _ (List.mem_append_right _ (List.mem_append_right _ hq)))))))))
        obtain ⟨J3, hlt⟩ := J.step hok2 hcond hsub hp9 hs9
        refine WhileStep.intro (m₂ := fun y => if y = Str.ofString "shown" then some (.ref D6) else if y = Str.ofString "pairs" then some v5 else if y = Str.ofString "names" then some (.ref D) else if y = Str.ofString "size" then some (.int size tz) else if y = Str.ofString "sized" then some (.bool sz) else if y = Str.ofString "room" then some (.int room tr) else if y = Str.ofString "numbers" then some (.ref nb) else none) (news₂ := (L' + 1 + 1, oc1) :: (L' + 1, oc2) :: lf) (fr_cong kF7 fun y => ?fr) (fun q hq => ?nn) hlt ⟨_, _, _, _, _, lf, rfl, rfl, J3⟩
        case nn =>
          rcases List.mem_cons.mp hq with rfl | hq
          · exact kN8 _ hc1
          rcases List.mem_cons.mp hq with rfl | hq
          · exact kN8 _ hc2
          · exact kN8 _ hq
        case fr =>
          by_cases h1 : y = Str.ofString "shown"
          · subst h1; rfl
          by_cases h2 : y = Str.ofString "pairs"
          · subst h2; rfl
          by_cases h3 : y = Str.ofString "names"
          · subst h3; rfl
          simp only [if_neg h1, if_neg h2, if_neg h3]
    ·
      rename News g' _ _ _ => kNn
      refine (value_spec (J.hp.mono fun q hq => .tail _ (.tail _ (List.mem_append_left _ hq))) (by omega)).use (by assumption) kNn (by assumption) (by assumption) (by first | exact roomD hd rfl | (simp only [depth_deeper, depth_in1]; omega)) (by first | exact roomU hu rfl | exact roomU1 hu rfl | (simp only [units_deeper, units_in1]; omega)) hh ?_
      rintro h4 tk4 v4 l4 hD4 hs4 F4 N4 M4
      simp only [List.cons_append, List.append_assoc] at N4
      k_steps
      rename Fr g' _ _ _ => kF
      rename News g' _ _ _ => kN
      obtain ⟨pa, ws, np, epa, hmp, hallp⟩ := dat_list J.hp
      cases epa
      have hwl : ws.length = p'.length := by have := hallp.length; rw [List.length_map] at this; exact this
      have hev := J.ev
      rw [evict_stop (show ¬ roomOf sz (delI p' key) + size > room by omega)] at hev
      refine eq_nil kN hD4 (fun q hq => .tail _ (.tail _ (.tail _ (List.mem_append_right _ (List.mem_append_right _ (List.mem_append_right _ hq)))))) (.head _) (by split <;> intro d hd <;> simp at hd; subst hd; rfl) (by first | exact roomC hu rfl | (simp only [units_deeper, units_in1]; omega)) ?off ?on
      case off =>
        intro hnil
        have hoff : kdfHas p' key = false := by
          cases z : kdfHas p' key with
          | false => rfl
          | true => rw [z] at hnil; simp at hnil
        k_steps
        rename Fr g' _ _ _ => kF6
        rename News g' _ _ _ => kN6
        refine l_add (ws := [.ref _]) kF6 kN6 (.tail _ (.tail _ (.tail _ (.tail _ (.tail _ (.tail _ (List.mem_append_left _ hmp))))))) (.head _) (by omega) (by simp) ?_
        intro D6 h6 F6 N6 L6
        k_steps
        rename Fr g' _ _ _ => kF7
        rename News g' _ _ _ => kN7
        obtain ⟨lf, hlf, kN8⟩ := news_list kN7
        have hsub : ∀ q ∈ l, q ∈ lf := fun q hq => by
          rw [hlf]; repeat (first | exact List.mem_append_left _ hq | apply List.Mem.tail)
        have hl : ∀ q ∈ r, q ∈ lf := fun q hq => hsub q (J.sub q hq)
        obtain ⟨q1, q2, q3⟩ := backN F N hg kF7 kN8 hl
        refine hret _ _ _ _ hl ?_ q1 q2 q3
        rw [hev, put_off hoff]
        dsimp only
        refine .tuple (by rw [hlf]; exact .head _) (.cons (.list (by rw [hlf]; repeat (first | exact List.Mem.head _ | apply List.Mem.tail)) .nil) (.cons (.list (by rw [hlf]; repeat (first | exact List.Mem.head _ | apply List.Mem.tail)) ?_) (.cons (J.hs.mono hsub) .nil)))
        rw [List.map_append]
        refine (hallp.mono hsub).append (.one (.tuple (by rw [hlf]; repeat (first | exact List.Mem.head _ | apply List.Mem.tail)) (.cons (.int _ _) (.cons (.int _ _) .nil))))
      case on =>
        intro hnil
        have hon : kdfHas p' key = true := by
          cases z : kdfHas p' key with
          | true => rfl
          | false => rw [z] at hnil; simp at hnil
        k_steps
        rename Fr g' _ _ _ => kF6
        rename News g' _ _ _ => kN6
        obtain ⟨lb, hlb, kN8⟩ := news_list kN6
        have hsubb : ∀ q ∈ l, q ∈ lb := fun q hq => by
          rw [hlb]; repeat (first | exact List.mem_append_left _ hq | apply List.Mem.tail)
        have hc1 : ((L' + 1 + 1, oc1) : Addr × Obj) ∈ lb := by rw [hlb]; repeat (first | exact List.Mem.head _ | apply List.Mem.tail)
        have hc2 : ((L' + 1, oc2) : Addr × Obj) ∈ lb := by rw [hlb]; repeat (first | exact List.Mem.head _ | apply List.Mem.tail)
        have hans := mem_head hlb
        clear kN6
        have kN9 : News g' L' _ ((L' + 1 + 1, oc1) :: (L' + 1, oc2) :: lb) := fun q hq => by
          rcases List.mem_cons.mp hq with rfl | hq
          · exact kN8 _ hc1
          rcases List.mem_cons.mp hq with rfl | hq
          · exact kN8 _ hc2
          · exact kN8 _ hq
        clear kN8
        refine LCg.CompSrc.ledger hh kF6 kN9 (.tail _ (.tail _ (hsubb _ hmp))) (by rw [sizeLine_eq, List.size_toArray]; omega) ?_
        intro gg
        refine restU (fun i ys news => ∃ lx, news = (L' + 1 + 1, oc1) :: (L' + 1, oc2) :: lx ∧ (∀ q ∈ lb, q ∈ lx) ∧ DatAll lx ys (((p'.take i).map fun p => if decide (p.1 = key) = true then (p.1, value) else p).map fun p => .tuple [.int p.1, .int p.2])) ?fin ?step _ 0 [] _ (Nat.zero_add _) ⟨lb, rfl, fun _ h => h, .nil⟩
        case step =>
          intro i ys news vv I oI C oC D m₂ h5 tk5 E' hi hPq hP hC hx F5 N5 o3 ne
          obtain ⟨lx, rfl, hbn, hys⟩ := hPq
          obtain ⟨a, n1, k1, x1, t1, u1, hpi, rfl, hm5⟩ := pair_at hallp (by simpa using hP)
          have hm6 := hbn _ (hsubb _ hm5)
          k_steps
          ·
            rename k1 = key => hkk
            rename Fr g' _ _ _ => kF5
            rename News g' _ _ _ => kN5
            rename _ < _ ∧ _ < _ ∧ _ => ll
            refine ⟨_, _, (L' + 1 + 1, oc1) :: (L' + 1, oc2) :: (_, _) :: lx, rfl, kF5, fun q hq => kN5 q (mv5 q hq), ⟨o3.1, o3.2.1, ⟨Nat.ne_of_gt ll.1, Nat.ne_of_gt ll.2.1, Nat.ne_of_gt ll.2.2.1⟩, o3.2.2⟩, .inr ⟨_, .tail _ (.tail _ (.tail _ (hbn _ (hsubb _ hmp)))), rfl, _, rfl⟩, _, rfl, fun q hq => .tail _ (hbn q hq), ?_⟩
            rw [take_at hpi, List.map_append, List.map_append]
            refine (hys.mono fun q hq => .tail _ hq).append ?_
            simp only [List.map_cons, List.map_nil, hkk, decide_true, if_true]
            exact .one (.tuple (.head _) (.cons (.int _ _) (.cons (.int _ _) .nil)))
          ·
            rename ¬ k1 = key => hkk
            refine ⟨_, _, _, rfl, by assumption, by assumption, o3, .inr ⟨_, .tail _ (.tail _ (hbn _ (hsubb _ hmp))), rfl, _, rfl⟩, lx, rfl, hbn, ?_⟩
            rw [take_at hpi, List.map_append, List.map_append]
            refine hys.append ?_
            simp only [List.map_cons, List.map_nil, decide_eq_false hkk, Bool.false_eq_true, if_false]
            exact .one (.tuple hm6 (.cons (.int _ _) (.cons (.int _ _) .nil)))
        case fin =>
          intro ys news hPq D h tk F5 N5 o1
          obtain ⟨lx, rfl, hbn, hys⟩ := hPq
          rw [List.size_toArray, hwl, List.take_length] at hys
          iterate 4 walk1
          rename Fr g' _ _ _ => kF7
          rename News g' _ _ _ => kN7
          obtain ⟨lf, hlf, kN8⟩ := news_list kN7
          have hlx : ∀ q ∈ lx, q ∈ lf := fun q hq => by
            rw [hlf]; exact .tail _ (.tail _ (.tail _ (.tail _ hq)))
          have hl : ∀ q ∈ r, q ∈ lf := fun q hq => hlx q (hbn q (hsubb q (J.sub q hq)))
          obtain ⟨q1, q2, q3⟩ := backN F N hg kF7 kN8 hl
          refine hret _ _ _ _ hl ?_ q1 q2 q3
          rw [hev, put_on hon]
          dsimp only
          refine .tuple (mem_head hlf) (.cons (.list (hlx _ (hbn _ hans)) .nil) (.cons (.list (by rw [hlf]; exact .tail _ (.head _)) (hys.mono hlx)) (.cons (J.hs.mono fun q hq => hlx q (hbn q (hsubb q hq))) .nil)))
end
section
theorem put_refused {w : World} {r : List (Addr × Obj)} {v vsh : Value} {nb : Addr} {vs2 : List Value} {n2 : Nat} {nums : List Int} {pairs : List (Int × Int)} {shown : List (List Int)} {room key value : Int} {sz : Bool} {tr tk tv : Tok}
    (hv : DatIn r v (PD pairs)) (hsh : DatIn r vsh (SD shown)) (hm2 : (nb, listOf vs2.toArray n2) ∈ r)
    (hno : ¬ (0 ≤ (if sz then sizeOf value else 1) ∧ (if sz then sizeOf value else 1) ≤ room)) :
    NSpec w 20 263 [v, vsh, .ref nb, .int room tr, .bool sz, .int key tk, .int value tv] r fun x l => DatIn l x (.tuple [dRef, PD pairs, SD shown]) := by
  have hv0 := hv
  have hsh0 := hsh
  intro A s g L m R p loose mean mg mb F N X T hd hu hh hret
  refine' enterMC ?k1 ?k2 ?k3 ?k4 ?k6 ?k7 ?k8 ?k9 ?kB ?kD ?_ ?c2 ?c3 ?c4; (case k1 => assumption); (case k2 => assumption); (case k3 => assumption); (case k4 => assumption); (case k6 => k_is); (case k7 => k_is); (case k8 => first | exact roomA hd | ((try simp only [depth_deeper, depth_in1] at *); omega)); (case k9 => first | exact BindsTo.of_eq rfl | exact binds_K (by k_in) rfl (by k_is) rfl rfl rfl); (case kB => exact rfl); (case kD => decide +kernel); (case c2 => exact rfl); (case c3 => exact rfl); (case c4 => exact rfl); k_whole
  intro g' L' h₁ tk₀ cells F' N' Y' X' T' hg l1 EE
  k_cells Y'
  try simp only [List.cons_append, List.nil_append] at N'
  try k_lt l1
  refine wpAny_mono (E := fun _ _ => False) ?_ (fun _ _ h => h) (fun _ _ h => h.elim)
  rename_i oc1 oc2 d1 d2
  iterate 2 walk1
  refine wpAny_mono (Q := fun v s' => ∃ h t tk, v = .int (if sz then sizeOf value else 1) t ∧ s' = { s with heap := h, toks := tk } ∧ ∀ b o, h₁.get? b = some o → h.get? b = some o) ?_ ?_ (fun _ _ h => h)
  · cases sz
    · k_steps
      all_goals exact ⟨_, _, _, rfl, rfl, fun _ _ e => e⟩
    · k_steps
      refine (size_spec).use (by assumption) (by assumption) (by assumption) (by assumption) (by first | exact roomD hd rfl | (simp only [depth_deeper, depth_in1]; omega)) (by first | exact roomU hu rfl | exact roomU1 hu rfl | (simp only [units_deeper, units_in1]; omega)) hh trivial ?_
      intro h2 tk2 v2 hPq F3 N3 M3 G3
      obtain ⟨ts, rfl⟩ := hPq
      try dsimp only
      exact ⟨_, _, _, rfl, rfl, M3⟩
  rintro v1 s1 ⟨h, tz, tk1, rfl, rfl, M1⟩
  replace F' := F'.keeps M1
  replace N' := N'.grown M1
  generalize hsz : (if sz then sizeOf value else 1) = size at *
  have hcase : room < size ∨ (size ≤ room ∧ size < 0) := by omega
  rcases hcase with h1 | ⟨h1, h1'⟩
  ·
    k_steps
    rename Fr g' _ _ _ => kF7
    rename News g' _ _ _ => kN7
    obtain ⟨lf, hlf, kN8⟩ := news_list kN7
    have hl : ∀ q ∈ r, q ∈ lf := fun q hq => by rw [hlf]; exact .tail _ (.tail _ (.tail _ (.tail _ hq)))
    obtain ⟨q1, q2, q3⟩ := backN F N hg kF7 kN8 hl
    refine hret _ _ _ _ hl ?_ q1 q2 q3
    exact .tuple (mem_head hlf) (.cons (.list (by rw [hlf]; exact .tail _ (.head _)) (.one (.str _ _))) (.cons (hv0.mono hl) (.cons (hsh0.mono hl) .nil)))
  ·
    k_steps
    rename Fr g' _ _ _ => kF7
    rename News g' _ _ _ => kN7
    obtain ⟨lf, hlf, kN8⟩ := news_list kN7
    have hl : ∀ q ∈ r, q ∈ lf := fun q hq => by rw [hlf]; exact .tail _ (.tail _ (.tail _ (.tail _ hq)))
    obtain ⟨q1, q2, q3⟩ := backN F N hg kF7 kN8 hl
    refine hret _ _ _ _ hl ?_ q1 q2 q3
    exact .tuple (mem_head hlf) (.cons (.list (by rw [hlf]; exact .tail _ (.head _)) (.one (.str _ _))) (.cons (hv0.mono hl) (.cons (hsh0.mono hl) .nil)))
end
section
theorem due_st0 {w : World} {r : List (Addr × Obj)} {v vsh : Value} {nb : Addr} {vs2 : List Value} {n2 : Nat} {nums : List Int} {pairs : List (Int × Int)} {shown : List (List Int)} {room d key value : Int} {sz : Bool} {tr td tk tv : Tok}
    (hv : DatIn r v (PD pairs)) (hsh : DatIn r vsh (SD shown)) (hm2 : (nb, listOf vs2.toArray n2) ∈ r) (hi2 : IntsAre vs2 nums) (hlen : pairs.length ≤ 5) (hnn : nums ≠ []) (hl2 : nums.length ≤ 50) (hl3 : shown.length ≤ 500) (hnd : (pairs.map (·.1)).Nodup)
    (hd2 : d < 2) (hok : 0 ≤ (if sz then sizeOf value else 1) ∧ (if sz then sizeOf value else 1) ≤ room) :
    NSpec w 40 275 [v, vsh, .ref nb, .int room tr, .bool sz, .int d td, .int key tk, .int value tv] r fun x l => ∃ ans p' sh', dueL sz room nums pairs shown d key value = (ans, p', sh') ∧ DatIn l x (.tuple [ans, PD p', SD sh']) := by
  intro A s g L m R p loose mean mg mb F N X T hd hu hh hret
  ktr_enter
  intro g' L' h₁ F' N' X' T' hg EE
  refine wpAny_mono (E := fun _ _ => False) ?_ (fun _ _ h => h) (fun _ _ h => h.elim)
  k_steps
  rename News g' _ _ _ => kNn
  refine (value_spec hv (by omega)).use (by assumption) kNn (by assumption) (by assumption) (by first | exact roomD hd rfl | (simp only [depth_deeper, depth_in1]; omega)) (by first | exact roomU hu rfl | exact roomU1 hu rfl | (simp only [units_deeper, units_in1]; omega)) hh ?_
  rintro h4 tk4 v4 l4 hD4 hs4 F4 N4 M4
  k_steps
  rename News g' _ _ _ => kNn
  refine (put_spec (hv.mono fun q hq => List.mem_append_left _ hq) (hsh.mono fun q hq => List.mem_append_left _ hq) (List.mem_append_left _ hm2) hi2 hlen hnn hl2 hl3 hnd hok).use (by assumption) kNn (by assumption) (by assumption) (by first | exact roomD hd rfl | (simp only [depth_deeper, depth_in1]; omega)) (by first | exact roomU hu rfl | exact roomU1 hu rfl | (simp only [units_deeper, units_in1]; omega)) hh ?_
  rintro h5 tk5 v5 l5 hD5 hs5 F5 N5 M5
  obtain ⟨ta, ax, ay, az, tn, rfl, hmt, hD6, hD7, hD8⟩ := tri hD5
  have hT := News.isTup N5 (List.mem_append_right _ hmt)
  refine unpackN_ F5 N5 hT hh (by exact rfl) (by exact rfl) ?_
  intro h6 F6 N6
  k_steps
  rename Fr g' _ _ _ => kF
  rename News g' _ _ _ => kN
  simp only [List.append_assoc] at kN
  refine eq_nil kN hD6 (fun q hq => .tail _ (List.mem_append_right _ (List.mem_append_right _ hq))) (.head _) (fun d hd => nomatch hd) (by first | exact roomC hu rfl | (simp only [units_deeper, units_in1]; omega)) ?off (fun h => absurd rfl h)
  case off =>
    intro _
    have hne : ¬ d = 6 := by omega
    k_steps
    ·
      exact absurd (by assumption) hne
    ·
      rename Fr g' _ _ _ => kF7
      rename News g' _ _ _ => kN7
      obtain ⟨lf, hlf, kN8⟩ := news_list kN7
      have hl5 : ∀ q ∈ l5, q ∈ lf := fun q hq => by rw [hlf]; exact .tail _ (.tail _ (List.mem_append_right _ (List.mem_append_right _ hq)))
      have hl : ∀ q ∈ r, q ∈ lf := fun q hq => by rw [hlf]; exact .tail _ (.tail _ (List.mem_append_left _ hq))
      obtain ⟨q1, q2, q3⟩ := backN F N hg kF7 kN8 hl
      refine hret _ _ _ _ hl ⟨_, _, _, (due_stored (.inl hd2) hok).trans (by rw [if_neg (show ¬ d = 6 by omega)]), ?_⟩ q1 q2 q3
      exact .tuple (mem_head hlf) (.cons (hD6.mono hl5) (.cons (hD7.mono hl5) (.cons (hD8.mono hl5) .nil)))
end
section
theorem due_rf0 {w : World} {r : List (Addr × Obj)} {v vsh : Value} {nb : Addr} {vs2 : List Value} {n2 : Nat} {nums : List Int} {pairs : List (Int × Int)} {shown : List (List Int)} {room d key value : Int} {sz : Bool} {tr td tk tv : Tok}
    (hv : DatIn r v (PD pairs)) (hsh : DatIn r vsh (SD shown)) (hm2 : (nb, listOf vs2.toArray n2) ∈ r) (hi2 : IntsAre vs2 nums) (hlen : pairs.length ≤ 5) (hnn : nums ≠ []) (hl2 : nums.length ≤ 50) (hl3 : shown.length ≤ 500) (hnd : (pairs.map (·.1)).Nodup)
    (hd2 : d < 2) (hno : ¬ (0 ≤ (if sz then sizeOf value else 1) ∧ (if sz then sizeOf value else 1) ≤ room)) :
    NSpec w 40 275 [v, vsh, .ref nb, .int room tr, .bool sz, .int d td, .int key tk, .int value tv] r fun x l => ∃ ans p' sh', dueL sz room nums pairs shown d key value = (ans, p', sh') ∧ DatIn l x (.tuple [ans, PD p', SD sh']) := by
  intro A s g L m R p loose mean mg mb F N X T hd hu hh hret
  ktr_enter
  intro g' L' h₁ F' N' X' T' hg EE
  refine wpAny_mono (E := fun _ _ => False) ?_ (fun _ _ h => h) (fun _ _ h => h.elim)
  k_steps
  rename News g' _ _ _ => kNn
  refine (value_spec hv (by omega)).use (by assumption) kNn (by assumption) (by assumption) (by first | exact roomD hd rfl | (simp only [depth_deeper, depth_in1]; omega)) (by first | exact roomU hu rfl | exact roomU1 hu rfl | (simp only [units_deeper, units_in1]; omega)) hh ?_
  rintro h4 tk4 v4 l4 hD4 hs4 F4 N4 M4
  k_steps
  rename News g' _ _ _ => kNn
  refine (put_refused (nums := nums) (hv.mono fun q hq => List.mem_append_left _ hq) (hsh.mono fun q hq => List.mem_append_left _ hq) (List.mem_append_left _ hm2) hno).use (by assumption) kNn (by assumption) (by assumption) (by first | exact roomD hd rfl | (simp only [depth_deeper, depth_in1]; omega)) (by first | exact roomU hu rfl | exact roomU1 hu rfl | (simp only [units_deeper, units_in1]; omega)) hh ?_
  rintro h5 tk5 v5 l5 hD5 hs5 F5 N5 M5
  obtain ⟨ta, ax, ay, az, tn, rfl, hmt, hD6, hD7, hD8⟩ := tri hD5
  have hT := News.isTup N5 (List.mem_append_right _ hmt)
  refine unpackN_ F5 N5 hT hh (by exact rfl) (by exact rfl) ?_
  intro h6 F6 N6
  k_steps
  rename Fr g' _ _ _ => kF
  rename News g' _ _ _ => kN
  try simp only [List.cons_append, List.append_assoc] at kN
  refine eq_nil kN hD6 (fun q hq => .tail _ (List.mem_append_right _ (List.mem_append_right _ hq))) (.head _) (fun d hd => by rw [List.mem_singleton.mp hd]; decide +kernel) (by first | exact roomC hu rfl | (simp only [units_deeper, units_in1]; omega)) (fun h => absurd h (by simp)) ?off
  case off =>
    intro _
    k_steps
    ·
      rename Fr g' _ _ _ => kF7
      rename News g' _ _ _ => kN7
      obtain ⟨lf, hlf, kN8⟩ := news_list kN7
      have hl5 : ∀ q ∈ l5, q ∈ lf := fun q hq => by rw [hlf]; exact .tail _ (.tail _ (List.mem_append_right _ (List.mem_append_right _ hq)))
      have hl : ∀ q ∈ r, q ∈ lf := fun q hq => by rw [hlf]; exact .tail _ (.tail _ (List.mem_append_left _ hq))
      obtain ⟨q1, q2, q3⟩ := backN F N hg kF7 kN8 hl
      refine hret _ _ _ _ hl ⟨_, _, _, due_refused (.inl hd2) hno, ?_⟩ q1 q2 q3
      exact .tuple (mem_head hlf) (.cons (hD6.mono hl5) (.cons (hD7.mono hl5) (.cons (hD8.mono hl5) .nil)))
end
section
theorem due_st6 {w : World} {r : List (Addr × Obj)} {v vsh : Value} {nb : Addr} {vs2 : List Value} {n2 : Nat} {nums : List Int} {pairs : List (Int × Int)} {shown : List (List Int)} {room key value : Int} {sz : Bool} {tr td tk tv : Tok}
    (hv : DatIn r v (PD pairs)) (hsh : DatIn r vsh (SD shown)) (hm2 : (nb, listOf vs2.toArray n2) ∈ r) (hi2 : IntsAre vs2 nums) (hlen : pairs.length ≤ 5) (hnn : nums ≠ []) (hl2 : nums.length ≤ 50) (hl3 : shown.length ≤ 500) (hnd : (pairs.map (·.1)).Nodup)
    (hk : kdfHas pairs key = false) (hok : 0 ≤ (if sz then sizeOf value else 1) ∧ (if sz then sizeOf value else 1) ≤ room) :
    NSpec w 40 275 [v, vsh, .ref nb, .int room tr, .bool sz, .int 6 td, .int key tk, .int value tv] r fun x l => ∃ ans p' sh', dueL sz room nums pairs shown 6 key value = (ans, p', sh') ∧ DatIn l x (.tuple [ans, PD p', SD sh']) := by
  intro A s g L m R p loose mean mg mb F N X T hd hu hh hret
  ktr_enter
  intro g' L' h₁ F' N' X' T' hg EE
  refine wpAny_mono (E := fun _ _ => False) ?_ (fun _ _ h => h) (fun _ _ h => h.elim)
  k_steps
  rename News g' _ _ _ => kNn
  refine (value_spec hv (by omega)).use (by assumption) kNn (by assumption) (by assumption) (by first | exact roomD hd rfl | (simp only [depth_deeper, depth_in1]; omega)) (by first | exact roomU hu rfl | exact roomU1 hu rfl | (simp only [units_deeper, units_in1]; omega)) hh ?_
  rintro h4 tk4 v4 l4 hD4 hs4 F4 N4 M4
  k_steps
  rw [hk] at hD4
  rename Fr g' _ _ _ => kF0
  rename News g' _ _ _ => kN0
  refine eq_nil kN0 hD4 (fun q hq => .tail _ (List.mem_append_right _ hq)) (.head _) (fun d hd => nomatch hd) (by first | exact roomC hu rfl | (simp only [units_deeper, units_in1]; omega)) ?off0 (fun h => absurd rfl h)
  intro _
  k_steps
  rename News g' _ _ _ => kNn
  refine (put_spec (hv.mono fun q hq => .tail _ (List.mem_append_left _ hq)) (hsh.mono fun q hq => .tail _ (List.mem_append_left _ hq)) (.tail _ (List.mem_append_left _ hm2)) hi2 hlen hnn hl2 hl3 hnd hok).use (by assumption) kNn (by assumption) (by assumption) (by first | exact roomD hd rfl | (simp only [depth_deeper, depth_in1]; omega)) (by first | exact roomU hu rfl | exact roomU1 hu rfl | (simp only [units_deeper, units_in1]; omega)) hh ?_
  rintro h5 tk5 v5 l5 hD5 hs5 F5 N5 M5
  try simp only [List.cons_append, List.append_assoc] at N5
  obtain ⟨ta, ax, ay, az, tn, rfl, hmt, hD6, hD7, hD8⟩ := tri hD5
  have hT := News.isTup N5 (by first | exact List.mem_append_right _ hmt | exact .tail _ (List.mem_append_right _ (List.mem_append_right _ hmt)))
  refine unpackN_ F5 N5 hT hh (by exact rfl) (by exact rfl) ?_
  intro h6 F6 N6
  k_steps
  rename Fr g' _ _ _ => kF
  rename News g' _ _ _ => kN
  try simp only [List.cons_append, List.append_assoc] at kN
  refine eq_nil kN hD6 (fun q hq => .tail _ (.tail _ (List.mem_append_right _ (List.mem_append_right _ hq)))) (.head _) (fun d hd => nomatch hd) (by first | exact roomC hu rfl | (simp only [units_deeper, units_in1]; omega)) ?off (fun h => absurd rfl h)
  case off =>
    intro _
    k_steps
    rename Fr g' _ _ _ => kF7
    rename News g' _ _ _ => kN7
    obtain ⟨lf, hlf, kN8⟩ := news_list kN7
    have hl5 : ∀ q ∈ l5, q ∈ lf := fun q hq => by rw [hlf]; exact .tail _ (.tail _ (.tail _ (.tail _ (List.mem_append_right _ (List.mem_append_right _ hq)))))
    have hl : ∀ q ∈ r, q ∈ lf := fun q hq => by rw [hlf]; exact .tail _ (.tail _ (.tail _ (.tail _ (List.mem_append_left _ hq))))
    obtain ⟨q1, q2, q3⟩ := backN F N hg kF7 kN8 hl
    refine hret _ _ _ _ hl ⟨_, _, _, due_stored (.inr ⟨rfl, hk⟩) hok, ?_⟩ q1 q2 q3
    rw [if_pos rfl]
    exact .tuple (mem_head hlf) (.cons (.list (by rw [hlf]; exact .tail _ (.head _)) (.one (.int _ _))) (.cons (hD7.mono hl5) (.cons (hD8.mono hl5) .nil)))
end
section
theorem due_rf6 {w : World} {r : List (Addr × Obj)} {v vsh : Value} {nb : Addr} {vs2 : List Value} {n2 : Nat} {nums : List Int} {pairs : List (Int × Int)} {shown : List (List Int)} {room key value : Int} {sz : Bool} {tr td tk tv : Tok}
    (hv : DatIn r v (PD pairs)) (hsh : DatIn r vsh (SD shown)) (hm2 : (nb, listOf vs2.toArray n2) ∈ r) (hi2 : IntsAre vs2 nums) (hlen : pairs.length ≤ 5) (hnn : nums ≠ []) (hl2 : nums.length ≤ 50) (hl3 : shown.length ≤ 500) (hnd : (pairs.map (·.1)).Nodup)
    (hk : kdfHas pairs key = false) (hno : ¬ (0 ≤ (if sz then sizeOf value else 1) ∧ (if sz then sizeOf value else 1) ≤ room)) :
    NSpec w 40 275 [v, vsh, .ref nb, .int room tr, .bool sz, .int 6 td, .int key tk, .int value tv] r fun x l => ∃ ans p' sh', dueL sz room nums pairs shown 6 key value = (ans, p', sh') ∧ DatIn l x (.tuple [ans, PD p', SD sh']) := by
  intro A s g L m R p loose mean mg mb F N X T hd hu hh hret
  ktr_enter
  intro g' L' h₁ F' N' X' T' hg EE
  refine wpAny_mono (E := fun _ _ => False) ?_ (fun _ _ h => h) (fun _ _ h => h.elim)
  k_steps
  rename News g' _ _ _ => kNn
  refine (value_spec hv (by omega)).use (by assumption) kNn (by assumption) (by assumption) (by first | exact roomD hd rfl | (simp only [depth_deeper, depth_in1]; omega)) (by first | exact roomU hu rfl | exact roomU1 hu rfl | (simp only [units_deeper, units_in1]; omega)) hh ?_
  rintro h4 tk4 v4 l4 hD4 hs4 F4 N4 M4
  k_steps
  rw [hk] at hD4
  rename Fr g' _ _ _ => kF0
  rename News g' _ _ _ => kN0
  refine eq_nil kN0 hD4 (fun q hq => .tail _ (List.mem_append_right _ hq)) (.head _) (fun d hd => nomatch hd) (by first | exact roomC hu rfl | (simp only [units_deeper, units_in1]; omega)) ?off0 (fun h => absurd rfl h)
  intro _
  k_steps
  rename News g' _ _ _ => kNn
  refine (put_refused (nums := nums) (hv.mono fun q hq => .tail _ (List.mem_append_left _ hq)) (hsh.mono fun q hq => .tail _ (List.mem_append_left _ hq)) (.tail _ (List.mem_append_left _ hm2)) hno).use (by assumption) kNn (by assumption) (by assumption) (by first | exact roomD hd rfl | (simp only [depth_deeper, depth_in1]; omega)) (by first | exact roomU hu rfl | exact roomU1 hu rfl | (simp only [units_deeper, units_in1]; omega)) hh ?_
  rintro h5 tk5 v5 l5 hD5 hs5 F5 N5 M5
  try simp only [List.cons_append, List.append_assoc] at N5
  obtain ⟨ta, ax, ay, az, tn, rfl, hmt, hD6, hD7, hD8⟩ := tri hD5
  have hT := News.isTup N5 (by first | exact List.mem_append_right _ hmt | exact .tail _ (List.mem_append_right _ (List.mem_append_right _ hmt)))
  refine unpackN_ F5 N5 hT hh (by exact rfl) (by exact rfl) ?_
  intro h6 F6 N6
  k_steps
  rename Fr g' _ _ _ => kF
  rename News g' _ _ _ => kN
  try simp only [List.cons_append, List.append_assoc] at kN
  refine eq_nil kN hD6 (fun q hq => .tail _ (.tail _ (List.mem_append_right _ (List.mem_append_right _ hq)))) (.head _) (fun d hd => by rw [List.mem_singleton.mp hd]; decide +kernel) (by first | exact roomC hu rfl | (simp only [units_deeper, units_in1]; omega)) (fun h => absurd h (by simp)) ?off
  case off =>
    intro _
    k_steps
    rename Fr g' _ _ _ => kF7
    rename News g' _ _ _ => kN7
    obtain ⟨lf, hlf, kN8⟩ := news_list kN7
    have hl5 : ∀ q ∈ l5, q ∈ lf := fun q hq => by rw [hlf]; exact .tail _ (.tail _ (.tail _ (List.mem_append_right _ (List.mem_append_right _ hq))))
    have hl : ∀ q ∈ r, q ∈ lf := fun q hq => by rw [hlf]; exact .tail _ (.tail _ (.tail _ (List.mem_append_left _ hq)))
    obtain ⟨q1, q2, q3⟩ := backN F N hg kF7 kN8 hl
    refine hret _ _ _ _ hl ⟨_, _, _, due_refused (.inr ⟨rfl, hk⟩) hno, ?_⟩ q1 q2 q3
    exact .tuple (mem_head hlf) (.cons (hD6.mono hl5) (.cons (hD7.mono hl5) (.cons (hD8.mono hl5) .nil)))
end
section
theorem due_ask0 {w : World} {r : List (Addr × Obj)} {v vsh : Value} {nb : Addr} {vs2 : List Value} {n2 : Nat} {nums : List Int} {pairs : List (Int × Int)} {shown : List (List Int)} {room key value : Int} {sz : Bool} {tr td tk tv : Tok}
    (hv : DatIn r v (PD pairs)) (hsh : DatIn r vsh (SD shown)) (hm2 : (nb, listOf vs2.toArray n2) ∈ r) (hi2 : IntsAre vs2 nums) (hlen : pairs.length ≤ 5) (hnn : nums ≠ []) (hl2 : nums.length ≤ 50) (hl3 : shown.length ≤ 500) (hnd : (pairs.map (·.1)).Nodup)
    (hd : True) :
    NSpec w 40 275 [v, vsh, .ref nb, .int room tr, .bool sz, .int 3 td, .int key tk, .int value tv] r fun x l => ∃ ans p' sh', dueL sz room nums pairs shown 3 key value = (ans, p', sh') ∧ DatIn l x (.tuple [ans, PD p', SD sh']) := by
  have hv0 := hv
  have hsh0 := hsh
  intro A s g L m R p loose mean mg mb F N X T hd hu hh hret
  ktr_enter
  intro g' L' h₁ F' N' X' T' hg EE
  refine wpAny_mono (E := fun _ _ => False) ?_ (fun _ _ h => h) (fun _ _ h => h.elim)
  k_steps
  rename News g' _ _ _ => kNn
  refine (value_spec hv0 (by omega)).use (by assumption) kNn (by assumption) (by assumption) (by first | exact roomD hd rfl | (simp only [depth_deeper, depth_in1]; omega)) (by first | exact roomU hu rfl | exact roomU1 hu rfl | (simp only [units_deeper, units_in1]; omega)) hh ?_
  rintro h4 tk4 v4 l4 hD4 hs4 F4 N4 M4
  k_steps
  rename Fr g' _ _ _ => kF
  rename News g' _ _ _ => kN
  have hb : ∀ b : Bool, b = kdfHas pairs key → DatIn [] (.bool b) (.bool (kdfHas pairs key)) := fun b e => e ▸ .bool _
  refine ne_nil kN hD4 (fun q hq => .tail _ (List.mem_append_right _ hq)) (.head _) (by split <;> intro d hd <;> simp at hd; subst hd; rfl) (by first | exact roomC hu rfl | (simp only [units_deeper, units_in1]; omega)) ?off ?on
  case off =>
    intro hnil
    have hoff : kdfHas pairs key = false := by
      cases z : kdfHas pairs key with
      | false => rfl
      | true => rw [z] at hnil; simp at hnil
    k_steps
    rename Fr g' _ _ _ => kF7
    rename News g' _ _ _ => kN7
    obtain ⟨lf, hlf, kN8⟩ := news_list kN7
    have hl : ∀ q ∈ r, q ∈ lf := fun q hq => by rw [hlf]; exact .tail _ (.tail _ (.tail _ (List.mem_append_left _ hq)))
    obtain ⟨q1, q2, q3⟩ := backN F N hg kF7 kN8 hl
    refine hret _ _ _ _ hl ⟨_, _, _, due_ask, ?_⟩ q1 q2 q3
    rw [hoff]
    exact .tuple (mem_head hlf) (.cons (.list (by rw [hlf]; exact .tail _ (.head _)) (.one (.bool _))) (.cons (hv0.mono hl) (.cons (hsh0.mono hl) .nil)))
  case on =>
    intro hnil
    have hon : kdfHas pairs key = true := by
      cases z : kdfHas pairs key with
      | true => rfl
      | false => rw [z] at hnil; simp at hnil
    k_steps
    rename Fr g' _ _ _ => kF7
    rename News g' _ _ _ => kN7
    obtain ⟨lf, hlf, kN8⟩ := news_list kN7
    have hl : ∀ q ∈ r, q ∈ lf := fun q hq => by rw [hlf]; exact .tail _ (.tail _ (.tail _ (List.mem_append_left _ hq)))
    obtain ⟨q1, q2, q3⟩ := backN F N hg kF7 kN8 hl
    refine hret _ _ _ _ hl ⟨_, _, _, due_ask, ?_⟩ q1 q2 q3
    rw [hon]
    exact .tuple (mem_head hlf) (.cons (.list (by rw [hlf]; exact .tail _ (.head _)) (.one (.bool _))) (.cons (hv0.mono hl) (.cons (hsh0.mono hl) .nil)))
end
section
theorem due_pop00 {w : World} {r : List (Addr × Obj)} {v vsh : Value} {nb : Addr} {vs2 : List Value} {n2 : Nat} {nums : List Int} {pairs : List (Int × Int)} {shown : List (List Int)} {room key value : Int} {sz : Bool} {tr td tk tv : Tok}
    (hv : DatIn r v (PD pairs)) (hsh : DatIn r vsh (SD shown)) (hm2 : (nb, listOf vs2.toArray n2) ∈ r) (hi2 : IntsAre vs2 nums) (hlen : pairs.length ≤ 5) (hnn : nums ≠ []) (hl2 : nums.length ≤ 50) (hl3 : shown.length ≤ 500) (hnd : (pairs.map (·.1)).Nodup)
    (hp : pairs = []) :
    NSpec w 40 275 [v, vsh, .ref nb, .int room tr, .bool sz, .int 8 td, .int key tk, .int value tv] r fun x l => ∃ ans p' sh', dueL sz room nums pairs shown 8 key value = (ans, p', sh') ∧ DatIn l x (.tuple [ans, PD p', SD sh']) := by
  have hv0 := hv
  have hsh0 := hsh
  intro A s g L m R p loose mean mg mb F N X T hd hu hh hret
  ktr_enter
  intro g' L' h₁ F' N' X' T' hg EE
  refine wpAny_mono (E := fun _ _ => False) ?_ (fun _ _ h => h) (fun _ _ h => h.elim)
  k_steps
  rename News g' _ _ _ => kNn
  refine (value_spec hv0 (by omega)).use (by assumption) kNn (by assumption) (by assumption) (by first | exact roomD hd rfl | (simp only [depth_deeper, depth_in1]; omega)) (by first | exact roomU hu rfl | exact roomU1 hu rfl | (simp only [units_deeper, units_in1]; omega)) hh ?_
  rintro h4 tk4 v4 l4 hD4 hs4 F4 N4 M4
  k_steps
  rename Fr g' _ _ _ => kF
  rename News g' _ _ _ => kN
  refine eq_nil kN hv0 (fun q hq => .tail _ (List.mem_append_left _ hq)) (.head _) (by rw [hp]; intro d hd; nomatch hd) (by first | exact roomC hu rfl | (simp only [units_deeper, units_in1]; omega)) ?off (fun h => absurd (by rw [hp]; rfl) h)
  case off =>
    intro _
    k_steps
    rename Fr g' _ _ _ => kF7
    rename News g' _ _ _ => kN7
    obtain ⟨lf, hlf, kN8⟩ := news_list kN7
    have hl : ∀ q ∈ r, q ∈ lf := fun q hq => by rw [hlf]; exact .tail _ (.tail _ (.tail _ (List.mem_append_left _ hq)))
    obtain ⟨q1, q2, q3⟩ := backN F N hg kF7 kN8 hl
    refine hret _ _ _ _ hl ⟨_, _, _, due_pop0 hp, ?_⟩ q1 q2 q3
    exact .tuple (mem_head hlf) (.cons (.list (by rw [hlf]; exact .tail _ (.head _)) (.one (.str _ _))) (.cons (hv0.mono hl) (.cons (hsh0.mono hl) .nil)))
end
section
theorem due_pop80 {w : World} {r : List (Addr × Obj)} {v vsh : Value} {nb : Addr} {vs2 : List Value} {n2 : Nat} {nums : List Int} {pairs : List (Int × Int)} {shown : List (List Int)} {room key value : Int} {sz : Bool} {tr td tk tv : Tok}
    (hv : DatIn r v (PD pairs)) (hsh : DatIn r vsh (SD shown)) (hm2 : (nb, listOf vs2.toArray n2) ∈ r) (hi2 : IntsAre vs2 nums) (hlen : pairs.length ≤ 5) (hnn : nums ≠ []) (hl2 : nums.length ≤ 50) (hl3 : shown.length ≤ 500) (hnd : (pairs.map (·.1)).Nodup)
    (hp : pairs ≠ []) :
    NSpec w 40 275 [v, vsh, .ref nb, .int room tr, .bool sz, .int 8 td, .int key tk, .int value tv] r fun x l => ∃ ans p' sh', dueL sz room nums pairs shown 8 key value = (ans, p', sh') ∧ DatIn l x (.tuple [ans, PD p', SD sh']) := by
  have hv0 := hv
  have hsh0 := hsh
  obtain ⟨pa, pvs, pn, rfl, hmp, hallp⟩ := dat_list hv
  obtain ⟨sa, svs, sn, rfl, hms, halls⟩ := dat_list hsh
  intro A s g L m R p loose mean mg mb F N X T hd hu hh hret
  ktr_enter
  intro g' L' h₁ F' N' X' T' hg EE
  refine wpAny_mono (E := fun _ _ => False) ?_ (fun _ _ h => h) (fun _ _ h => h.elim)
  k_steps
  rename News g' _ _ _ => kNn
  refine (value_spec hv0 (by omega)).use (by assumption) kNn (by assumption) (by assumption) (by first | exact roomD hd rfl | (simp only [depth_deeper, depth_in1]; omega)) (by first | exact roomU hu rfl | exact roomU1 hu rfl | (simp only [units_deeper, units_in1]; omega)) hh ?_
  rintro h4 tk4 v4 l4 hD4 hs4 F4 N4 M4
  k_steps
  rename Fr g' _ _ _ => kF
  rename News g' _ _ _ => kN
  have hwl : pvs.length = pairs.length := by have := hallp.length; rw [List.length_map] at this; exact this
  have hsl : svs.length = shown.length := by have := halls.length; rw [List.length_map] at this; exact this
  have hne : pairs.map (·.1) ≠ [] := by intro e; exact hp (by simpa using e)
  have hnl : (pairs.map (·.1)).length ≤ 50 := by rw [List.length_map]; omega
  refine eq_nil kN hv0 (fun q hq => .tail _ (List.mem_append_left _ hq)) (.head _) (by intro d hd; obtain ⟨p, _, rfl⟩ := List.mem_map.mp hd; rfl) (by first | exact roomC hu rfl | (simp only [units_deeper, units_in1]; omega)) (fun h => absurd (by simpa using h) hp) ?off
  case off =>
    intro _
    k_steps
    refine LCg.Assign_ListComp_U (F₀ := by k_asm) (by rfl) (by with_unfolding_all rfl) (by with_unfolding_all rfl) (by decide) (by rfl) (by decide) (by rfl) (by rfl) (by rfl) ?_
    k_steps
    rename Fr g' _ _ _ => kF4
    rename News g' _ _ _ => kN4
    refine LCg.CompSrc.ledger hh kF4 kN4 (.tail _ (List.mem_append_left _ hmp)) (by rw [sizeLine_eq, List.size_toArray]; omega) ?_
    intro gg
    refine restU (fun i ys news => news = _ ∧ IntsAre ys ((pairs.take i).map (·.1))) ?fin ?step _ 0 [] _ (Nat.zero_add _) ⟨rfl, .nil⟩
    case step =>
      intro i ys news vv I oI C oC D m₂ h tk E' hi hPq hP hC hx F5 N5 o3 ne
      obtain ⟨rfl, hys⟩ := hPq
      obtain ⟨a, n1, k1, x1, t1, u1, hpi, rfl, hm5⟩ := pair_at hallp (by simpa using hP)
      have hm6 := List.mem_append_left l4 hm5
      k_steps
      refine ⟨_, _, _, rfl, by assumption, by assumption, o3, .inr ⟨_, .tail _ (List.mem_append_left _ hmp), rfl, _, rfl⟩, rfl, ?_⟩
      rw [take_at hpi, List.map_append]
      exact ints_append hys (.cons _ _ .nil)
    case fin =>
      intro ys news hPq D h tk F5 N5 o1
      obtain ⟨rfl, hys⟩ := hPq
      rw [List.size_toArray, hwl, List.take_length] at hys
      have hsl2 : svs.length ≤ 1000 := by omega
      k_steps
      rename News g' _ _ _ => kNn
      refine (picked_spec (.head _) hys (.tail _ (.tail _ (List.mem_append_left _ hm2))) hi2 hne hnn (by rw [List.length_map]; omega) hl2).use (by assumption) kNn (by assumption) (by assumption) (by first | exact roomD hd rfl | (simp only [depth_deeper, depth_in1]; omega)) (by first | exact roomU hu rfl | exact roomU1 hu rfl | (simp only [units_deeper, units_in1]; omega)) hh ?_
      intro h5 tk5 v5 l5 hPq hs5 F6 N6 M6
      obtain ⟨t5, rfl⟩ := hPq
      simp only [List.cons_append, List.append_assoc] at N6
      rw [hsl]
      generalize hgone : picked (pairs.map (·.1)) nums shown.length = gone
      have hmem : kdfHas pairs gone = true := by rw [has_iff, ← hgone]; exact picked_mem hne
      k_steps
      rename News g' _ _ _ => kNn
      refine (value_spec (hv0.mono fun q hq => .tail _ (.tail _ (List.mem_append_left _ hq))) (by omega)).use (by assumption) kNn (by assumption) (by assumption) (by first | exact roomD hd rfl | (simp only [depth_deeper, depth_in1]; omega)) (by first | exact roomU hu rfl | exact roomU1 hu rfl | (simp only [units_deeper, units_in1]; omega)) hh ?_
      rintro h7 tk7 v7 l7 hD7 hs7 F7 N7 M7
      simp only [List.cons_append, List.append_assoc] at N7
      rw [hmem, if_pos rfl] at hD7
      obtain ⟨a7, vs7, n7, rfl, hm7, hi7⟩ := one_int hD7
      walk1
      dsimp only
      refine l_item N7 (.tail _ (.tail _ (List.mem_append_right _ (List.mem_append_right _ (List.mem_append_right _ hm7))))) hi7 (by decide) (Int.lt_of_lt_of_le (by decide) (Int.le_refl 1)) (Nat.le_of_ble_eq_true rfl) ?_
      intro t8
      k_steps
      rename News g' _ _ _ => kNn
      refine (without_spec (hv0.mono fun q hq => .tail _ (.tail _ (.tail _ (.tail _ (List.mem_append_left _ hq))))) (by omega)).use (by assumption) kNn (by assumption) (by assumption) (by first | exact roomD hd rfl | (simp only [depth_deeper, depth_in1]; omega)) (by first | exact roomU hu rfl | exact roomU1 hu rfl | (simp only [units_deeper, units_in1]; omega)) hh ?_
      rintro h9 tk9 v9 l9 hD9 hs9 F9 N9 M9
      simp only [List.cons_append, List.append_assoc] at N9
      k_steps
      rename List.Pairwise _ _ => hpw
      rename List.Perm _ _ => hpm
      rename IntsAre _ _ => hso
      rw [sortI_uniq hpm hpw] at hso
      rename Fr g' _ _ _ => kF6
      rename News g' _ _ _ => kN6
      refine l_add kF6 kN6 (.tail _ (.tail _ (.tail _ (.tail _ (.tail _ (.tail _ (List.mem_append_left _ hms))))))) (.head _) hsl2 (by simp) ?_
      intro D6 h10 F10 N10 L10
      k_steps
      rename Fr g' _ _ _ => kF7
      rename News g' _ _ _ => kN7
      obtain ⟨lf, hlf, kN8⟩ := news_list kN7
      have hl : ∀ q ∈ r, q ∈ lf := fun q hq => by rw [hlf]; exact .tail _ (.tail _ (.tail _ (.tail _ (.tail _ (.tail _ (.tail _ (.tail _ (List.mem_append_left _ hq))))))))
      have hl9 : ∀ q ∈ l9, q ∈ lf := fun q hq => by rw [hlf]; exact .tail _ (.tail _ (.tail _ (.tail _ (.tail _ (.tail _ (.tail _ (.tail _ (List.mem_append_right _ (List.mem_append_right _ (List.mem_append_right _ (List.mem_append_right _ hq)))))))))))
      obtain ⟨q1, q2, q3⟩ := backN F N hg kF7 kN8 hl
      refine hret _ _ _ _ hl ⟨_, _, _, due_pop1 hp, ?_⟩ q1 q2 q3
      rw [hgone]
      refine .tuple (mem_head hlf) (.cons (.list (by rw [hlf]; exact .tail _ (.tail _ (.tail _ (.tail _ (.head _))))) (.one (.tuple (by rw [hlf]; exact .tail _ (.tail _ (.tail _ (.tail _ (.tail _ (.head _)))))) (.cons (.int _ _) (.cons (.int _ _) .nil))))) (.cons (hD9.mono hl9) (.cons (.list (by rw [hlf]; exact .tail _ (.head _)) ?_) .nil)))
      rw [List.map_append]
      exact (halls.mono hl).append (.one (.list (by rw [hlf]; exact .tail _ (.tail _ (.tail _ (.head _)))) (ints_dat hso)))
end
section
theorem due_clear0 {w : World} {r : List (Addr × Obj)} {v vsh : Value} {nb : Addr} {vs2 : List Value} {n2 : Nat} {nums : List Int} {pairs : List (Int × Int)} {shown : List (List Int)} {room key value : Int} {sz : Bool} {tr td tk tv : Tok}
    (hv : DatIn r v (PD pairs)) (hsh : DatIn r vsh (SD shown)) (hm2 : (nb, listOf vs2.toArray n2) ∈ r) (hi2 : IntsAre vs2 nums) (hlen : pairs.length ≤ 5) (hnn : nums ≠ []) (hl2 : nums.length ≤ 50) (hl3 : shown.length ≤ 500) (hnd : (pairs.map (·.1)).Nodup)
    (hv4 : value % 4 = 0) :
    NSpec w 40 275 [v, vsh, .ref nb, .int room tr, .bool sz, .int 9 td, .int key tk, .int value tv] r fun x l => ∃ ans p' sh', dueL sz room nums pairs shown 9 key value = (ans, p', sh') ∧ DatIn l x (.tuple [ans, PD p', SD sh']) := by
  have hv0 := hv
  have hsh0 := hsh
  intro A s g L m R p loose mean mg mb F N X T hd hu hh hret
  ktr_enter
  intro g' L' h₁ F' N' X' T' hg EE
  refine wpAny_mono (E := fun _ _ => False) ?_ (fun _ _ h => h) (fun _ _ h => h.elim)
  have hv5 : value.fmod 4 = 0 := by rw [Int.fmod_eq_emod_of_nonneg _ (by omega)]; exact hv4
  k_steps
  rename News g' _ _ _ => kNn
  refine (value_spec hv0 (by omega)).use (by assumption) kNn (by assumption) (by assumption) (by first | exact roomD hd rfl | (simp only [depth_deeper, depth_in1]; omega)) (by first | exact roomU hu rfl | exact roomU1 hu rfl | (simp only [units_deeper, units_in1]; omega)) hh ?_
  rintro h4 tk4 v4 l4 hD4 hs4 F4 N4 M4
  k_steps
  ·
    rename Fr g' _ _ _ => kF7
    rename News g' _ _ _ => kN7
    obtain ⟨lf, hlf, kN8⟩ := news_list kN7
    have hl : ∀ q ∈ r, q ∈ lf := fun q hq => by rw [hlf]; exact .tail _ (.tail _ (.tail _ (List.mem_append_left _ hq)))
    obtain ⟨q1, q2, q3⟩ := backN F N hg kF7 kN8 hl
    refine hret _ _ _ _ hl ⟨_, _, _, due_clear hv4, ?_⟩ q1 q2 q3
    exact .tuple (mem_head hlf) (.cons (.list (by rw [hlf]; exact .tail _ (.tail _ (.head _))) .nil) (.cons (.list (by rw [hlf]; exact .tail _ (.head _)) .nil) (.cons (hsh0.mono hl) .nil)))
  ·
    exact absurd hv5 (by assumption)
end
section
theorem due_offs {w : World} {r : List (Addr × Obj)} {v vsh : Value} {nb : Addr} {vs2 : List Value} {n2 : Nat} {nums : List Int} {pairs : List (Int × Int)} {shown : List (List Int)} {room d key value : Int} {sz : Bool} {tr td tk tv : Tok}
    (hv : DatIn r v (PD pairs)) (hsh : DatIn r vsh (SD shown)) (hm2 : (nb, listOf vs2.toArray n2) ∈ r) (hi2 : IntsAre vs2 nums) (hlen : pairs.length ≤ 5) (hnn : nums ≠ []) (hl2 : nums.length ≤ 50) (hl3 : shown.length ≤ 500) (hnd : (pairs.map (·.1)).Nodup)
    (hk : kdfHas pairs key = false) (hd4 : d = 2 ∨ d = 4 ∨ d = 5 ∨ d = 7) :
    NSpec w 40 275 [v, vsh, .ref nb, .int room tr, .bool sz, .int d td, .int key tk, .int value tv] r fun x l => ∃ ans p' sh', dueL sz room nums pairs shown d key value = (ans, p', sh') ∧ DatIn l x (.tuple [ans, PD p', SD sh']) := by
  have h2 : decide (d < 2) = false := decide_eq_false (by omega)
  have hb : ∀ k : Int, d ≠ k → (d == k) = false := fun k h => by simp [h]
  have h6 := hb 6 (by omega)
  have h3 := hb 3 (by omega)
  have h8 := hb 8 (by omega)
  have h9 := hb 9 (by omega)
  clear hb
  have hv0 := hv
  have hsh0 := hsh
  intro A s g L m R p loose mean mg mb F N X T hd hu hh hret
  ktr_enter
  intro g' L' h₁ F' N' X' T' hg EE
  refine wpAny_mono (E := fun _ _ => False) ?_ (fun _ _ h => h) (fun _ _ h => h.elim)
  k_steps
  rename News g' _ _ _ => kNn
  refine (value_spec hv0 (by omega)).use (by assumption) kNn (by assumption) (by assumption) (by first | exact roomD hd rfl | (simp only [depth_deeper, depth_in1]; omega)) (by first | exact roomU hu rfl | exact roomU1 hu rfl | (simp only [units_deeper, units_in1]; omega)) hh ?_
  rintro h4 tk4 v4 l4 hD4 hs4 F4 N4 M4
  k_steps
  rw [hk] at hD4
  rename Fr g' _ _ _ => kF
  rename News g' _ _ _ => kN
  refine eq_nil kN hD4 (fun q hq => .tail _ (List.mem_append_right _ hq)) (.head _) (fun d hd => nomatch hd) (by first | exact roomC hu rfl | (simp only [units_deeper, units_in1]; omega)) ?off (fun h => absurd rfl h)
  case off =>
    intro _
    dsimp only
    walk1
    rw [if_pos rfl]
    k_steps
    rcases hd4 with rfl | rfl | rfl | rfl
    ·
      k_steps
      rename Fr g' _ _ _ => kF7
      rename News g' _ _ _ => kN7
      obtain ⟨lf, hlf, kN8⟩ := news_list kN7
      have hl : ∀ q ∈ r, q ∈ lf := fun q hq => by rw [hlf]; exact .tail _ (.tail _ (.tail _ (.tail _ (.tail _ (.tail _ (.tail _ (.tail _ (List.mem_append_left _ hq))))))))
      obtain ⟨q1, q2, q3⟩ := backN F N hg kF7 kN8 hl
      refine hret _ _ _ _ hl ⟨_, _, _, due_off hk (.inl rfl), ?_⟩ q1 q2 q3
      rw [if_neg (by decide), if_neg (by decide)]
      exact .tuple (mem_head hlf) (.cons (.list (by rw [hlf]; exact .tail _ (.tail _ (.tail _ (.tail _ (.tail _ (.head _)))))) (.one (.str _ _))) (.cons (hv0.mono hl) (.cons (hsh0.mono hl) .nil)))
    ·
      k_steps
      rename Fr g' _ _ _ => kF7
      rename News g' _ _ _ => kN7
      obtain ⟨lf, hlf, kN8⟩ := news_list kN7
      have hl : ∀ q ∈ r, q ∈ lf := fun q hq => by rw [hlf]; exact .tail _ (.tail _ (.tail _ (.tail _ (.tail _ (.tail _ (.tail _ (.tail _ (List.mem_append_left _ hq))))))))
      obtain ⟨q1, q2, q3⟩ := backN F N hg kF7 kN8 hl
      refine hret _ _ _ _ hl ⟨_, _, _, due_off hk (.inr (.inl rfl)), ?_⟩ q1 q2 q3
      rw [if_pos rfl]
      exact .tuple (mem_head hlf) (.cons (.list (by rw [hlf]; exact .tail _ (.tail _ (.tail _ (.tail _ (.head _))))) (.one (.int _ _))) (.cons (hv0.mono hl) (.cons (hsh0.mono hl) .nil)))
    ·
      k_steps
      rename Fr g' _ _ _ => kF7
      rename News g' _ _ _ => kN7
      obtain ⟨lf, hlf, kN8⟩ := news_list kN7
      have hl : ∀ q ∈ r, q ∈ lf := fun q hq => by rw [hlf]; exact .tail _ (.tail _ (.tail _ (.tail _ (.tail _ (.tail _ (.tail _ (.tail _ (List.mem_append_left _ hq))))))))
      obtain ⟨q1, q2, q3⟩ := backN F N hg kF7 kN8 hl
      refine hret _ _ _ _ hl ⟨_, _, _, due_off hk (.inr (.inr (.inl rfl))), ?_⟩ q1 q2 q3
      rw [if_neg (by decide), if_pos rfl]
      exact .tuple (mem_head hlf) (.cons (.list (by rw [hlf]; exact .tail _ (.tail _ (.tail _ (.head _)))) (.one (.int _ _))) (.cons (hv0.mono hl) (.cons (hsh0.mono hl) .nil)))
    ·
      k_steps
      rename Fr g' _ _ _ => kF7
      rename News g' _ _ _ => kN7
      obtain ⟨lf, hlf, kN8⟩ := news_list kN7
      have hl : ∀ q ∈ r, q ∈ lf := fun q hq => by rw [hlf]; exact .tail _ (.tail _ (.tail _ (.tail _ (.tail _ (.tail _ (.tail _ (.tail _ (List.mem_append_left _ hq))))))))
      obtain ⟨q1, q2, q3⟩ := backN F N hg kF7 kN8 hl
      refine hret _ _ _ _ hl ⟨_, _, _, due_off hk (.inr (.inr (.inr (.inl rfl)))), ?_⟩ q1 q2 q3
      rw [if_neg (by decide), if_neg (by decide)]
      exact .tuple (mem_head hlf) (.cons (.list (by rw [hlf]; exact .tail _ (.tail _ (.head _))) (.one (.str _ _))) (.cons (hv0.mono hl) (.cons (hsh0.mono hl) .nil)))
end
section
theorem due_off9 {w : World} {r : List (Addr × Obj)} {v vsh : Value} {nb : Addr} {vs2 : List Value} {n2 : Nat} {nums : List Int} {pairs : List (Int × Int)} {shown : List (List Int)} {room key value : Int} {sz : Bool} {tr td tk tv : Tok}
    (hv : DatIn r v (PD pairs)) (hsh : DatIn r vsh (SD shown)) (hm2 : (nb, listOf vs2.toArray n2) ∈ r) (hi2 : IntsAre vs2 nums) (hlen : pairs.length ≤ 5) (hnn : nums ≠ []) (hl2 : nums.length ≤ 50) (hl3 : shown.length ≤ 500) (hnd : (pairs.map (·.1)).Nodup)
    (hk : kdfHas pairs key = false) (hv4 : ¬ value % 4 = 0) :
    NSpec w 40 275 [v, vsh, .ref nb, .int room tr, .bool sz, .int 9 td, .int key tk, .int value tv] r fun x l => ∃ ans p' sh', dueL sz room nums pairs shown 9 key value = (ans, p', sh') ∧ DatIn l x (.tuple [ans, PD p', SD sh']) := by
  have hv0 := hv
  have hsh0 := hsh
  intro A s g L m R p loose mean mg mb F N X T hd hu hh hret
  ktr_enter
  intro g' L' h₁ F' N' X' T' hg EE
  refine wpAny_mono (E := fun _ _ => False) ?_ (fun _ _ h => h) (fun _ _ h => h.elim)
  have hv5 : ¬ value.fmod 4 = 0 := by rw [Int.fmod_eq_emod_of_nonneg _ (by omega)]; exact hv4
  k_steps
  rename News g' _ _ _ => kNn
  refine (value_spec hv0 (by omega)).use (by assumption) kNn (by assumption) (by assumption) (by first | exact roomD hd rfl | (simp only [depth_deeper, depth_in1]; omega)) (by first | exact roomU hu rfl | exact roomU1 hu rfl | (simp only [units_deeper, units_in1]; omega)) hh ?_
  rintro h4 tk4 v4 l4 hD4 hs4 F4 N4 M4
  k_steps
  ·
    exact absurd (by assumption) hv5
  ·
    rw [hk] at hD4
    rename Fr g' _ _ _ => kF
    rename News g' _ _ _ => kN
    refine eq_nil kN hD4 (fun q hq => .tail _ (List.mem_append_right _ hq)) (.head _) (fun d hd => nomatch hd) (by first | exact roomC hu rfl | (simp only [units_deeper, units_in1]; omega)) ?off (fun h => absurd rfl h)
    case off =>
      intro _
      dsimp only
      walk1
      rw [if_pos rfl]
      k_steps
      rename Fr g' _ _ _ => kF7
      rename News g' _ _ _ => kN7
      obtain ⟨lf, hlf, kN8⟩ := news_list kN7
      have hl : ∀ q ∈ r, q ∈ lf := fun q hq => by rw [hlf]; exact .tail _ (.tail _ (.tail _ (.tail _ (.tail _ (.tail _ (.tail _ (.tail _ (List.mem_append_left _ hq))))))))
      obtain ⟨q1, q2, q3⟩ := backN F N hg kF7 kN8 hl
      refine hret _ _ _ _ hl ⟨_, _, _, due_off hk (.inr (.inr (.inr (.inr ⟨rfl, hv4⟩)))), ?_⟩ q1 q2 q3
      rw [if_neg (by decide), if_neg (by decide)]
      exact .tuple (mem_head hlf) (.cons (.list (by rw [hlf]; exact .tail _ (.head _)) (.one (.str _ _))) (.cons (hv0.mono hl) (.cons (hsh0.mono hl) .nil)))
end
section
theorem due_gone5 {w : World} {r : List (Addr × Obj)} {v vsh : Value} {nb : Addr} {vs2 : List Value} {n2 : Nat} {nums : List Int} {pairs : List (Int × Int)} {shown : List (List Int)} {room key value : Int} {sz : Bool} {tr td tk tv : Tok}
    (hv : DatIn r v (PD pairs)) (hsh : DatIn r vsh (SD shown)) (hm2 : (nb, listOf vs2.toArray n2) ∈ r) (hi2 : IntsAre vs2 nums) (hlen : pairs.length ≤ 5) (hnn : nums ≠ []) (hl2 : nums.length ≤ 50) (hl3 : shown.length ≤ 500) (hnd : (pairs.map (·.1)).Nodup)
    (hk : kdfHas pairs key = true) :
    NSpec w 40 275 [v, vsh, .ref nb, .int room tr, .bool sz, .int 5 td, .int key tk, .int value tv] r fun x l => ∃ ans p' sh', dueL sz room nums pairs shown 5 key value = (ans, p', sh') ∧ DatIn l x (.tuple [ans, PD p', SD sh']) := by
  have hv0 := hv
  have hsh0 := hsh
  intro A s g L m R p loose mean mg mb F N X T hd hu hh hret
  ktr_enter
  intro g' L' h₁ F' N' X' T' hg EE
  refine wpAny_mono (E := fun _ _ => False) ?_ (fun _ _ h => h) (fun _ _ h => h.elim)
  k_steps
  rename News g' _ _ _ => kNn
  refine (value_spec hv0 (by omega)).use (by assumption) kNn (by assumption) (by assumption) (by first | exact roomD hd rfl | (simp only [depth_deeper, depth_in1]; omega)) (by first | exact roomU hu rfl | exact roomU1 hu rfl | (simp only [units_deeper, units_in1]; omega)) hh ?_
  rintro h4 tk4 v4 l4 hD4 hs4 F4 N4 M4
  rw [hk, if_pos rfl] at hD4
  have hdue := due_gone (sz := sz) (room := room) (nums := nums) (shown := shown) (value := value) hk (.inl rfl)
  clear hk
  k_steps
  rename Fr g' _ _ _ => kF
  rename News g' _ _ _ => kN
  refine eq_nil kN hD4 (fun q hq => .tail _ (List.mem_append_right _ hq)) (.head _) (by intro d hd; simp at hd; subst hd; rfl) (by first | exact roomC hu rfl | (simp only [units_deeper, units_in1]; omega)) (fun h => nomatch h) ?on
  case on =>
    intro _
    k_steps
    rename News g' _ _ _ => kNn
    refine (without_spec (hv0.mono fun q hq => .tail _ (.tail _ (List.mem_append_left _ hq))) (by omega)).use (by assumption) kNn (by assumption) (by assumption) (by first | exact roomD hd rfl | (simp only [depth_deeper, depth_in1]; omega)) (by first | exact roomU hu rfl | exact roomU1 hu rfl | (simp only [units_deeper, units_in1]; omega)) hh ?_
    rintro h5 tk5 v5 l5 hD5 hs5 F5 N5 M5
    try simp only [List.cons_append, List.append_assoc] at N5
    k_steps
    rename Fr g' _ _ _ => kF7
    rename News g' _ _ _ => kN7
    obtain ⟨lf, hlf, kN8⟩ := news_list kN7
    have hl : ∀ q ∈ r, q ∈ lf := fun q hq => by rw [hlf]; exact .tail _ (.tail _ (.tail _ (List.mem_append_left _ hq)))
    obtain ⟨q1, q2, q3⟩ := backN F N hg kF7 kN8 hl
    refine hret _ _ _ _ hl ⟨_, _, _, hdue, ?_⟩ q1 q2 q3
    rw [if_neg (by decide)]
    have hl4 : ∀ q ∈ l4, q ∈ lf := fun q hq => by rw [hlf]; exact .tail _ (.tail _ (.tail _ (List.mem_append_right _ (List.mem_append_left _ hq))))
    have hl5 : ∀ q ∈ l5, q ∈ lf := fun q hq => by rw [hlf]; exact .tail _ (.tail _ (.tail _ (List.mem_append_right _ (List.mem_append_right _ hq))))
    exact .tuple (mem_head hlf) (.cons (hD4.mono hl4) (.cons (hD5.mono hl5) (.cons (hsh0.mono hl) .nil)))
end
section
theorem due_gone7 {w : World} {r : List (Addr × Obj)} {v vsh : Value} {nb : Addr} {vs2 : List Value} {n2 : Nat} {nums : List Int} {pairs : List (Int × Int)} {shown : List (List Int)} {room key value : Int} {sz : Bool} {tr td tk tv : Tok}
    (hv : DatIn r v (PD pairs)) (hsh : DatIn r vsh (SD shown)) (hm2 : (nb, listOf vs2.toArray n2) ∈ r) (hi2 : IntsAre vs2 nums) (hlen : pairs.length ≤ 5) (hnn : nums ≠ []) (hl2 : nums.length ≤ 50) (hl3 : shown.length ≤ 500) (hnd : (pairs.map (·.1)).Nodup)
    (hk : kdfHas pairs key = true) :
    NSpec w 40 275 [v, vsh, .ref nb, .int room tr, .bool sz, .int 7 td, .int key tk, .int value tv] r fun x l => ∃ ans p' sh', dueL sz room nums pairs shown 7 key value = (ans, p', sh') ∧ DatIn l x (.tuple [ans, PD p', SD sh']) := by
  have hv0 := hv
  have hsh0 := hsh
  intro A s g L m R p loose mean mg mb F N X T hd hu hh hret
  ktr_enter
  intro g' L' h₁ F' N' X' T' hg EE
  refine wpAny_mono (E := fun _ _ => False) ?_ (fun _ _ h => h) (fun _ _ h => h.elim)
  k_steps
  rename News g' _ _ _ => kNn
  refine (value_spec hv0 (by omega)).use (by assumption) kNn (by assumption) (by assumption) (by first | exact roomD hd rfl | (simp only [depth_deeper, depth_in1]; omega)) (by first | exact roomU hu rfl | exact roomU1 hu rfl | (simp only [units_deeper, units_in1]; omega)) hh ?_
  rintro h4 tk4 v4 l4 hD4 hs4 F4 N4 M4
  rw [hk, if_pos rfl] at hD4
  have hdue := due_gone (sz := sz) (room := room) (nums := nums) (shown := shown) (value := value) hk (.inr (.inl rfl))
  clear hk
  k_steps
  rename Fr g' _ _ _ => kF
  rename News g' _ _ _ => kN
  refine eq_nil kN hD4 (fun q hq => .tail _ (List.mem_append_right _ hq)) (.head _) (by intro d hd; simp at hd; subst hd; rfl) (by first | exact roomC hu rfl | (simp only [units_deeper, units_in1]; omega)) (fun h => nomatch h) ?on
  case on =>
    intro _
    k_steps
    rename News g' _ _ _ => kNn
    refine (without_spec (hv0.mono fun q hq => .tail _ (.tail _ (.tail _ (List.mem_append_left _ hq)))) (by omega)).use (by assumption) kNn (by assumption) (by assumption) (by first | exact roomD hd rfl | (simp only [depth_deeper, depth_in1]; omega)) (by first | exact roomU hu rfl | exact roomU1 hu rfl | (simp only [units_deeper, units_in1]; omega)) hh ?_
    rintro h5 tk5 v5 l5 hD5 hs5 F5 N5 M5
    try simp only [List.cons_append, List.append_assoc] at N5
    k_steps
    rename Fr g' _ _ _ => kF7
    rename News g' _ _ _ => kN7
    obtain ⟨lf, hlf, kN8⟩ := news_list kN7
    have hl : ∀ q ∈ r, q ∈ lf := fun q hq => by rw [hlf]; exact .tail _ (.tail _ (.tail _ (.tail _ (List.mem_append_left _ hq))))
    obtain ⟨q1, q2, q3⟩ := backN F N hg kF7 kN8 hl
    refine hret _ _ _ _ hl ⟨_, _, _, hdue, ?_⟩ q1 q2 q3
    rw [if_pos rfl]
    have hl4 : ∀ q ∈ l4, q ∈ lf := fun q hq => by rw [hlf]; exact .tail _ (.tail _ (.tail _ (.tail _ (List.mem_append_right _ (List.mem_append_left _ hq)))))
    have hl5 : ∀ q ∈ l5, q ∈ lf := fun q hq => by rw [hlf]; exact .tail _ (.tail _ (.tail _ (.tail _ (List.mem_append_right _ (List.mem_append_right _ hq)))))
    exact .tuple (mem_head hlf) (.cons (.list (by rw [hlf]; exact .tail _ (.head _)) .nil) (.cons (hD5.mono hl5) (.cons (hsh0.mono hl) .nil)))
end
section
theorem due_gone9 {w : World} {r : List (Addr × Obj)} {v vsh : Value} {nb : Addr} {vs2 : List Value} {n2 : Nat} {nums : List Int} {pairs : List (Int × Int)} {shown : List (List Int)} {room key value : Int} {sz : Bool} {tr td tk tv : Tok}
    (hv : DatIn r v (PD pairs)) (hsh : DatIn r vsh (SD shown)) (hm2 : (nb, listOf vs2.toArray n2) ∈ r) (hi2 : IntsAre vs2 nums) (hlen : pairs.length ≤ 5) (hnn : nums ≠ []) (hl2 : nums.length ≤ 50) (hl3 : shown.length ≤ 500) (hnd : (pairs.map (·.1)).Nodup)
    (hk : kdfHas pairs key = true) (hv4 : ¬ value % 4 = 0) :
    NSpec w 40 275 [v, vsh, .ref nb, .int room tr, .bool sz, .int 9 td, .int key tk, .int value tv] r fun x l => ∃ ans p' sh', dueL sz room nums pairs shown 9 key value = (ans, p', sh') ∧ DatIn l x (.tuple [ans, PD p', SD sh']) := by
  have hv0 := hv
  have hsh0 := hsh
  intro A s g L m R p loose mean mg mb F N X T hd hu hh hret
  ktr_enter
  intro g' L' h₁ F' N' X' T' hg EE
  refine wpAny_mono (E := fun _ _ => False) ?_ (fun _ _ h => h) (fun _ _ h => h.elim)
  have hv5 : ¬ value.fmod 4 = 0 := by rw [Int.fmod_eq_emod_of_nonneg _ (by omega)]; exact hv4
  k_steps
  rename News g' _ _ _ => kNn
  refine (value_spec hv0 (by omega)).use (by assumption) kNn (by assumption) (by assumption) (by first | exact roomD hd rfl | (simp only [depth_deeper, depth_in1]; omega)) (by first | exact roomU hu rfl | exact roomU1 hu rfl | (simp only [units_deeper, units_in1]; omega)) hh ?_
  rintro h4 tk4 v4 l4 hD4 hs4 F4 N4 M4
  rw [hk, if_pos rfl] at hD4
  have hdue := due_gone (sz := sz) (room := room) (nums := nums) (shown := shown) (value := value) hk (.inr (.inr ⟨rfl, hv4⟩))
  clear hk
  k_steps
  ·
    exact absurd (by assumption) hv5
  ·
    rename Fr g' _ _ _ => kF
    rename News g' _ _ _ => kN
    refine eq_nil kN hD4 (fun q hq => .tail _ (List.mem_append_right _ hq)) (.head _) (by intro d hd; simp at hd; subst hd; rfl) (by first | exact roomC hu rfl | (simp only [units_deeper, units_in1]; omega)) (fun h => nomatch h) ?on
    case on =>
      intro _
      k_steps
      rename News g' _ _ _ => kNn
      refine (without_spec (hv0.mono fun q hq => .tail _ (.tail _ (List.mem_append_left _ hq))) (by omega)).use (by assumption) kNn (by assumption) (by assumption) (by first | exact roomD hd rfl | (simp only [depth_deeper, depth_in1]; omega)) (by first | exact roomU hu rfl | exact roomU1 hu rfl | (simp only [units_deeper, units_in1]; omega)) hh ?_
      rintro h5 tk5 v5 l5 hD5 hs5 F5 N5 M5
      try simp only [List.cons_append, List.append_assoc] at N5
      k_steps
      rename Fr g' _ _ _ => kF7
      rename News g' _ _ _ => kN7
      obtain ⟨lf, hlf, kN8⟩ := news_list kN7
      have hl : ∀ q ∈ r, q ∈ lf := fun q hq => by rw [hlf]; exact .tail _ (.tail _ (.tail _ (List.mem_append_left _ hq)))
      obtain ⟨q1, q2, q3⟩ := backN F N hg kF7 kN8 hl
      refine hret _ _ _ _ hl ⟨_, _, _, hdue, ?_⟩ q1 q2 q3
      rw [if_neg (by decide)]
      have hl4 : ∀ q ∈ l4, q ∈ lf := fun q hq => by rw [hlf]; exact .tail _ (.tail _ (.tail _ (List.mem_append_right _ (List.mem_append_left _ hq))))
      have hl5 : ∀ q ∈ l5, q ∈ lf := fun q hq => by rw [hlf]; exact .tail _ (.tail _ (.tail _ (List.mem_append_right _ (List.mem_append_right _ hq))))
      exact .tuple (mem_head hlf) (.cons (hD4.mono hl4) (.cons (hD5.mono hl5) (.cons (hsh0.mono hl) .nil)))
end
section
theorem due_keep2 {w : World} {r : List (Addr × Obj)} {v vsh : Value} {nb : Addr} {vs2 : List Value} {n2 : Nat} {nums : List Int} {pairs : List (Int × Int)} {shown : List (List Int)} {room key value : Int} {sz : Bool} {tr td tk tv : Tok}
    (hv : DatIn r v (PD pairs)) (hsh : DatIn r vsh (SD shown)) (hm2 : (nb, listOf vs2.toArray n2) ∈ r) (hi2 : IntsAre vs2 nums) (hlen : pairs.length ≤ 5) (hnn : nums ≠ []) (hl2 : nums.length ≤ 50) (hl3 : shown.length ≤ 500) (hnd : (pairs.map (·.1)).Nodup)
    (hk : kdfHas pairs key = true) :
    NSpec w 40 275 [v, vsh, .ref nb, .int room tr, .bool sz, .int 2 td, .int key tk, .int value tv] r fun x l => ∃ ans p' sh', dueL sz room nums pairs shown 2 key value = (ans, p', sh') ∧ DatIn l x (.tuple [ans, PD p', SD sh']) := by
  have hv0 := hv
  have hsh0 := hsh
  intro A s g L m R p loose mean mg mb F N X T hd hu hh hret
  ktr_enter
  intro g' L' h₁ F' N' X' T' hg EE
  refine wpAny_mono (E := fun _ _ => False) ?_ (fun _ _ h => h) (fun _ _ h => h.elim)
  k_steps
  rename News g' _ _ _ => kNn
  refine (value_spec hv0 (by omega)).use (by assumption) kNn (by assumption) (by assumption) (by first | exact roomD hd rfl | (simp only [depth_deeper, depth_in1]; omega)) (by first | exact roomU hu rfl | exact roomU1 hu rfl | (simp only [units_deeper, units_in1]; omega)) hh ?_
  rintro h4 tk4 v4 l4 hD4 hs4 F4 N4 M4
  rw [hk, if_pos rfl] at hD4
  have hdue := due_keep (sz := sz) (room := room) (nums := nums) (shown := shown) (value := value) 2 hk (by omega)
  clear hk
  k_steps
  rename Fr g' _ _ _ => kF
  rename News g' _ _ _ => kN
  refine eq_nil kN hD4 (fun q hq => .tail _ (List.mem_append_right _ hq)) (.head _) (by intro d hd; simp at hd; subst hd; rfl) (by first | exact roomC hu rfl | (simp only [units_deeper, units_in1]; omega)) (fun h => nomatch h) ?_
  intro _
  k_steps
  rename Fr g' _ _ _ => kF7
  rename News g' _ _ _ => kN7
  obtain ⟨lf, hlf, kN8⟩ := news_list kN7
  have hl : ∀ q ∈ r, q ∈ lf := fun q hq => by rw [hlf]; exact .tail _ (.tail _ (.tail _ (List.mem_append_left _ hq)))
  obtain ⟨q1, q2, q3⟩ := backN F N hg kF7 kN8 hl
  refine hret _ _ _ _ hl ⟨_, _, _, hdue, ?_⟩ q1 q2 q3
  have hl4 : ∀ q ∈ l4, q ∈ lf := fun q hq => by rw [hlf]; exact .tail _ (.tail _ (.tail _ (List.mem_append_right _ hq)))
  exact .tuple (mem_head hlf) (.cons (hD4.mono hl4) (.cons (hv0.mono hl) (.cons (hsh0.mono hl) .nil)))
end
section
theorem due_keep4 {w : World} {r : List (Addr × Obj)} {v vsh : Value} {nb : Addr} {vs2 : List Value} {n2 : Nat} {nums : List Int} {pairs : List (Int × Int)} {shown : List (List Int)} {room key value : Int} {sz : Bool} {tr td tk tv : Tok}
    (hv : DatIn r v (PD pairs)) (hsh : DatIn r vsh (SD shown)) (hm2 : (nb, listOf vs2.toArray n2) ∈ r) (hi2 : IntsAre vs2 nums) (hlen : pairs.length ≤ 5) (hnn : nums ≠ []) (hl2 : nums.length ≤ 50) (hl3 : shown.length ≤ 500) (hnd : (pairs.map (·.1)).Nodup)
    (hk : kdfHas pairs key = true) :
    NSpec w 40 275 [v, vsh, .ref nb, .int room tr, .bool sz, .int 4 td, .int key tk, .int value tv] r fun x l => ∃ ans p' sh', dueL sz room nums pairs shown 4 key value = (ans, p', sh') ∧ DatIn l x (.tuple [ans, PD p', SD sh']) := by
  have hv0 := hv
  have hsh0 := hsh
  intro A s g L m R p loose mean mg mb F N X T hd hu hh hret
  ktr_enter
  intro g' L' h₁ F' N' X' T' hg EE
  refine wpAny_mono (E := fun _ _ => False) ?_ (fun _ _ h => h) (fun _ _ h => h.elim)
  k_steps
  rename News g' _ _ _ => kNn
  refine (value_spec hv0 (by omega)).use (by assumption) kNn (by assumption) (by assumption) (by first | exact roomD hd rfl | (simp only [depth_deeper, depth_in1]; omega)) (by first | exact roomU hu rfl | exact roomU1 hu rfl | (simp only [units_deeper, units_in1]; omega)) hh ?_
  rintro h4 tk4 v4 l4 hD4 hs4 F4 N4 M4
  rw [hk, if_pos rfl] at hD4
  have hdue := due_keep (sz := sz) (room := room) (nums := nums) (shown := shown) (value := value) 4 hk (by omega)
  clear hk
  k_steps
  rename Fr g' _ _ _ => kF
  rename News g' _ _ _ => kN
  refine eq_nil kN hD4 (fun q hq => .tail _ (List.mem_append_right _ hq)) (.head _) (by intro d hd; simp at hd; subst hd; rfl) (by first | exact roomC hu rfl | (simp only [units_deeper, units_in1]; omega)) (fun h => nomatch h) ?_
  intro _
  k_steps
  rename Fr g' _ _ _ => kF7
  rename News g' _ _ _ => kN7
  obtain ⟨lf, hlf, kN8⟩ := news_list kN7
  have hl : ∀ q ∈ r, q ∈ lf := fun q hq => by rw [hlf]; exact .tail _ (.tail _ (.tail _ (List.mem_append_left _ hq)))
  obtain ⟨q1, q2, q3⟩ := backN F N hg kF7 kN8 hl
  refine hret _ _ _ _ hl ⟨_, _, _, hdue, ?_⟩ q1 q2 q3
  have hl4 : ∀ q ∈ l4, q ∈ lf := fun q hq => by rw [hlf]; exact .tail _ (.tail _ (.tail _ (List.mem_append_right _ hq)))
  exact .tuple (mem_head hlf) (.cons (hD4.mono hl4) (.cons (hv0.mono hl) (.cons (hsh0.mono hl) .nil)))
end
section
theorem due_keep6 {w : World} {r : List (Addr × Obj)} {v vsh : Value} {nb : Addr} {vs2 : List Value} {n2 : Nat} {nums : List Int} {pairs : List (Int × Int)} {shown : List (List Int)} {room key value : Int} {sz : Bool} {tr td tk tv : Tok}
    (hv : DatIn r v (PD pairs)) (hsh : DatIn r vsh (SD shown)) (hm2 : (nb, listOf vs2.toArray n2) ∈ r) (hi2 : IntsAre vs2 nums) (hlen : pairs.length ≤ 5) (hnn : nums ≠ []) (hl2 : nums.length ≤ 50) (hl3 : shown.length ≤ 500) (hnd : (pairs.map (·.1)).Nodup)
    (hk : kdfHas pairs key = true) :
    NSpec w 40 275 [v, vsh, .ref nb, .int room tr, .bool sz, .int 6 td, .int key tk, .int value tv] r fun x l => ∃ ans p' sh', dueL sz room nums pairs shown 6 key value = (ans, p', sh') ∧ DatIn l x (.tuple [ans, PD p', SD sh']) := by
  have hv0 := hv
  have hsh0 := hsh
  intro A s g L m R p loose mean mg mb F N X T hd hu hh hret
  ktr_enter
  intro g' L' h₁ F' N' X' T' hg EE
  refine wpAny_mono (E := fun _ _ => False) ?_ (fun _ _ h => h) (fun _ _ h => h.elim)
  k_steps
  rename News g' _ _ _ => kNn
  refine (value_spec hv0 (by omega)).use (by assumption) kNn (by assumption) (by assumption) (by first | exact roomD hd rfl | (simp only [depth_deeper, depth_in1]; omega)) (by first | exact roomU hu rfl | exact roomU1 hu rfl | (simp only [units_deeper, units_in1]; omega)) hh ?_
  rintro h4 tk4 v4 l4 hD4 hs4 F4 N4 M4
  rw [hk, if_pos rfl] at hD4
  have hdue := due_keep (sz := sz) (room := room) (nums := nums) (shown := shown) (value := value) 6 hk (by omega)
  clear hk
  k_steps
  rename Fr g' _ _ _ => kF
  rename News g' _ _ _ => kN
  refine eq_nil kN hD4 (fun q hq => .tail _ (List.mem_append_right _ hq)) (.head _) (by intro d hd; simp at hd; subst hd; rfl) (by first | exact roomC hu rfl | (simp only [units_deeper, units_in1]; omega)) (fun h => nomatch h) ?_
  intro _
  k_steps
  rename Fr g' _ _ _ => kF
  rename News g' _ _ _ => kN
  refine eq_nil kN hD4 (fun q hq => .tail _ (.tail _ (List.mem_append_right _ hq))) (.head _) (by intro d hd; simp at hd; subst hd; rfl) (by first | exact roomC hu rfl | (simp only [units_deeper, units_in1]; omega)) (fun h => nomatch h) ?_
  intro _
  k_steps
  rename Fr g' _ _ _ => kF7
  rename News g' _ _ _ => kN7
  obtain ⟨lf, hlf, kN8⟩ := news_list kN7
  have hl : ∀ q ∈ r, q ∈ lf := fun q hq => by rw [hlf]; exact .tail _ (.tail _ (.tail _ (.tail _ (List.mem_append_left _ hq))))
  obtain ⟨q1, q2, q3⟩ := backN F N hg kF7 kN8 hl
  refine hret _ _ _ _ hl ⟨_, _, _, hdue, ?_⟩ q1 q2 q3
  have hl4 : ∀ q ∈ l4, q ∈ lf := fun q hq => by rw [hlf]; exact .tail _ (.tail _ (.tail _ (.tail _ (List.mem_append_right _ hq))))
  exact .tuple (mem_head hlf) (.cons (hD4.mono hl4) (.cons (hv0.mono hl) (.cons (hsh0.mono hl) .nil)))
end
section
theorem due_spec {w : World} {r : List (Addr × Obj)} {v vsh : Value} {nb : Addr} {vs2 : List Value} {n2 : Nat} {nums : List Int} {pairs : List (Int × Int)} {shown : List (List Int)} {room d key value : Int} {sz : Bool} {tr td tk tv : Tok}
    (hv : DatIn r v (PD pairs)) (hsh : DatIn r vsh (SD shown)) (hm2 : (nb, listOf vs2.toArray n2) ∈ r) (hi2 : IntsAre vs2 nums) (hlen : pairs.length ≤ 5) (hnn : nums ≠ []) (hl2 : nums.length ≤ 50) (hl3 : shown.length ≤ 500) (hnd : (pairs.map (·.1)).Nodup)
    (hd0 : 0 ≤ d) (hd9 : d < 10) :
    NSpec w 40 275 [v, vsh, .ref nb, .int room tr, .bool sz, .int d td, .int key tk, .int value tv] r fun x l => ∃ ans p' sh', dueL sz room nums pairs shown d key value = (ans, p', sh') ∧ DatIn l x (.tuple [ans, PD p', SD sh']) := by
  have hcase : d < 2 ∨ d = 2 ∨ d = 3 ∨ d = 4 ∨ d = 5 ∨ d = 6 ∨ d = 7 ∨ d = 8 ∨ d = 9 := by omega
  rcases hcase with h | h | h | h | h | h | h | h | h
  · by_cases hok : 0 ≤ (if sz then sizeOf value else 1) ∧ (if sz then sizeOf value else 1) ≤ room
    · exact due_st0 hv hsh hm2 hi2 hlen hnn hl2 hl3 hnd h hok
    · exact due_rf0 hv hsh hm2 hi2 hlen hnn hl2 hl3 hnd h hok
  all_goals subst h
  all_goals cases hk : kdfHas pairs key
  · exact due_offs hv hsh hm2 hi2 hlen hnn hl2 hl3 hnd hk (.inl rfl)
  · exact due_keep2 hv hsh hm2 hi2 hlen hnn hl2 hl3 hnd hk
  · exact due_ask0 hv hsh hm2 hi2 hlen hnn hl2 hl3 hnd trivial
  · exact due_ask0 hv hsh hm2 hi2 hlen hnn hl2 hl3 hnd trivial
  · exact due_offs hv hsh hm2 hi2 hlen hnn hl2 hl3 hnd hk (.inr (.inl rfl))
  · exact due_keep4 hv hsh hm2 hi2 hlen hnn hl2 hl3 hnd hk
  · exact due_offs hv hsh hm2 hi2 hlen hnn hl2 hl3 hnd hk (.inr (.inr (.inl rfl)))
  · exact due_gone5 hv hsh hm2 hi2 hlen hnn hl2 hl3 hnd hk
  · by_cases hok : 0 ≤ (if sz then sizeOf value else 1) ∧ (if sz then sizeOf value else 1) ≤ room
    · exact due_st6 hv hsh hm2 hi2 hlen hnn hl2 hl3 hnd hk hok
    · exact due_rf6 hv hsh hm2 hi2 hlen hnn hl2 hl3 hnd hk hok
  · exact due_keep6 hv hsh hm2 hi2 hlen hnn hl2 hl3 hnd hk
  · exact due_offs hv hsh hm2 hi2 hlen hnn hl2 hl3 hnd hk (.inr (.inr (.inr rfl)))
  · exact due_gone7 hv hsh hm2 hi2 hlen hnn hl2 hl3 hnd hk
  · by_cases hp : pairs = []
    · exact due_pop00 hv hsh hm2 hi2 hlen hnn hl2 hl3 hnd hp
    · exact due_pop80 hv hsh hm2 hi2 hlen hnn hl2 hl3 hnd hp
  · by_cases hp : pairs = []
    · exact due_pop00 hv hsh hm2 hi2 hlen hnn hl2 hl3 hnd hp
    · exact due_pop80 hv hsh hm2 hi2 hlen hnn hl2 hl3 hnd hp
  · by_cases hv4 : value % 4 = 0
    · exact due_clear0 hv hsh hm2 hi2 hlen hnn hl2 hl3 hnd hv4
    · exact due_off9 hv hsh hm2 hi2 hlen hnn hl2 hl3 hnd hk hv4
  · by_cases hv4 : value % 4 = 0
    · exact due_clear0 hv hsh hm2 hi2 hlen hnn hl2 hl3 hnd hv4
    · exact due_gone9 hv hsh hm2 hi2 hlen hnn hl2 hl3 hnd hk hv4
end
section
theorem ints_paired {pairs : List (Int × Int)} {kvs : List (Int × Value)} {vs ys : List Value} (hf : FlatPairs PyData.int kvs (kdfD pairs)) (hl : vs.length = kvs.length)
    (hP : ∀ (j : Nat) (v : Value), vs[j]? = some v → ∃ k x, kvs[j]? = some (k, x) ∧ (intKind PG w).is k v = true) (hF : Paired (fun v y => y = v) vs ys) : IntsAre ys (pairs.map (·.1)) := by
  have e1 : kvs.map (·.1) = pairs.map (·.1) := by
    have z := flat_keys hf
    unfold kdfD at z
    rw [List.map_map] at z
    have z2 : (pairs.map (·.1)).map PyData.int = (kvs.map (·.1)).map PyData.int := by rw [List.map_map]; exact z
    exact (List.map_inj_right fun a b e => by injection e).mp z2.symm
  rw [← e1]
  clear e1 hf
  have e2 : ys = vs := by
    clear hP hl
    induction hF with
    | nil => rfl
    | cons h _ ih => rw [h, ih]
  rw [e2]
  clear e2 hF
  induction vs generalizing kvs with
  | nil =>
    cases kvs with
    | nil => exact .nil
    | cons _ _ => cases hl
  | cons v vs ih =>
    cases kvs with
    | nil => cases hl
    | cons p kvs =>
      obtain ⟨k, x, a, b⟩ := hP 0 v rfl
      cases a
      obtain ⟨t, rfl⟩ := Value.isInt_shape b
      exact .cons _ _ (ih (Nat.succ.inj hl) fun j u hj => hP (j + 1) u hj)
theorem cache_comp {w : World} {c : CL} {o : CO} {st : CS} (I : CI w c o st) (hc1 : st.pairs.length ≤ 1000) {r : List (Addr × Obj)} {A : Around} {s : Shared} {g : Heap} {L : Addr} {m : Str → Option Value} {p : Program} {loose : List Str} {mean : ExcName → Option Value} {mg mb : Str → Option Value} {Q E : Value → Shared → Prop} {env : Env} {scope : Scope} {y : Str} {py : Pos}
    (F : Fr g L s.heap m) (N : News g L s.heap (c.led o ++ r)) (X : (KK w.params).In g) (T : Top p loose mean mg mb g) (hd' : A.depth + 4 < recursionLimit) (hu : A.units + 80 < cLine) (hh : A.handled = none) (hr : ∀ p ∈ r, p.1 ∉ c.adr)
    (hk : scope.kind = .function) (hl : scope.names.lookup y = some .local) (hd : (y == ("__debug__" : Str)) = false)
    (h : ∀ D ys n h' tk, IntsAre ys (st.pairs.map (·.1)) → Fr g L h' m → News g L h' ((D, listOf ys.toArray n) :: (c.led o ++ r)) → (∀ q ∈ c.led o ++ r, q.1 ≠ D) → s.heap.get? D = none → Q (.ref D) { s with heap := h', toks := tk }) :
    wpAny (model PG w) A (pyIter (.ref c.x)) (CompPost PG w A env scope y [] (.Name y py) Q) E s := by
  refine owit_iter F X (InstAt.of_news N (.head _) (.tail _ (.head _))) (by k_is) (by k_is) ?_
  refine (iter_spec I).useX F N X T hd' hu hh trivial hr ?_
  intro h2 tk2 v2 o2 hPq F2 N2 M2 new2
  obtain ⟨⟨it, ep, kvs, oI, rfl, hn, he, hi, ha, hf⟩, rfl⟩ := hPq
  have hit := hi.at he
  have hdat := ha.dictAt (N2 _ (List.mem_append_left _ (.tail _ (.tail _ (.head _))))).1
  have hne : c.ad ≠ it := fun e => by
    have z := (N _ (List.mem_append_left _ (.tail _ (.tail _ (.head _))))).1
    rw [show (c.ad, o2.oD).1 = it from e, hn] at z; cases z
  obtain ⟨⟨hiL, hig⟩, hic⟩ := new2 it hn
  unfold OwitIt
  refine wpAny_specialOf hit.typeIs PySem.F.slot_dict_keyiterator_next.lookup ?_
  refine ⟨fun _ => true, fun v y => y = v, it, _, _, kvs.length, _, _, rfl, Walks.dictKeys (knd := intKind PG w) hh it c.ad hne kvs ep, ?_, ⟨hit, hdat⟩, ?_, ⟨?_, ?_⟩, ?_⟩
  · have e1 : kvs.length = st.pairs.length := by
      have z := congrArg List.length (flat_keys hf)
      rw [List.length_map, List.length_map, List.length_map, kdfD_length] at z
      exact z.symm
    rw [e1, sizeLine_eq]; omega
  · intro b hb
    rcases List.mem_cons.mp hb with rfl | hb
    · exact Heap.lt_size he
    · rw [List.mem_singleton.mp hb]
      exact Heap.lt_size (N2 _ (List.mem_append_left _ (.tail _ (.tail _ (.head _))))).1
  · intro C i v s₃ m₃ E' _ _ _ _ _
    exact wpAny_tests_nil ⟨rfl, s₃.heap, s₃.toks, rfl, fun _ _ e => e⟩
  · intro C i v s₃ m₃ E' _ _ hns hm _ _
    exact wpAny_Name (wpAny_loadName_local hk (by exact hl) hns hm ⟨rfl, s₃.heap, s₃.toks, rfl, fun _ _ e => e⟩) hd
  · intro D h' tk ys vs hD hL hP hlen hv hF hkeep
    obtain ⟨n, hD'⟩ := hP
    have M3 : Mod [it] h2 h' := fun b o hb e => hkeep b o hb e
    have F3 := fr_mod F2 M3 (fun q => hiL (List.mem_singleton.mp q).symm) (fun a q => by rw [List.mem_singleton.mp q]; exact hig)
    have N3 := news_mod N2 M3 (fun q hq z => by
      have e := (N _ hq).1
      rw [List.mem_singleton.mp z, hn] at e; cases e)
    have hg : g.get? D = none := by
      cases z : g.get? D with
      | none => rfl
      | some o' => rw [F2.keep _ _ z] at hD; cases hD
    have hDL : D ≠ L := by
      obtain ⟨oL, _, _, hLo, _⟩ := F2.ns
      exact fun e => by rw [show D = L from e, hLo] at hD; cases hD
    have hs : s.heap.get? D = none := by
      cases z : s.heap.get? D with
      | none => rfl
      | some o' =>
        by_cases q : D ∈ c.adr
        · exact absurd hD (fun e => by exact adr_some (fun p hp => N2 p (List.mem_append_left _ hp)) D q e)
        · rw [M2 _ _ q z] at hD; cases hD
    refine h D ys.toList n h' tk (ints_paired (w := w) (vs := vs) hf hlen hv (by rw [List.filter_eq_self.mpr (fun _ _ => rfl)] at hF; exact hF)) F3 ?_ ?_ hs
    · intro q hq
      rcases List.mem_cons.mp hq with rfl | hq
      · exact ⟨hD', hDL, hg⟩
      · exact N3 q hq
    · intro q hq e
      have z := (N q hq).1
      rw [e, hs] at z; cases z
end
section
theorem tup2 {l : List (Addr × Obj)} {v : Value} {k u : Int} (D : DatIn l v (.tuple [.int k, .int u])) : ∃ a n t t', v = .ref a ∧ (a, ({ cls := .type "tuple", data := .seq [Value.int k t, Value.int u t'].toArray n } : Obj)) ∈ l := by
  obtain ⟨a, vs, n, e, hm, hall⟩ := dat_tup D
  obtain ⟨v1, ws1, rfl, h1, hall⟩ := all_cons hall
  obtain ⟨v2, ws2, rfl, h2, hall⟩ := all_cons hall
  obtain rfl := all_nil hall
  obtain ⟨t, rfl⟩ := dat_int h1
  obtain ⟨u, rfl⟩ := dat_int h2
  exact ⟨a, n, t, u, e, hm⟩
theorem tup2_one {g h : Heap} {L : Addr} {l : List (Addr × Obj)} {v : Value} {k u k' u' : Int} (N : News g L h l) (D : DatIn l v (.tuple [.int k, .int u])) (D' : DatIn l v (.tuple [.int k', .int u'])) : k = k' := by
  obtain ⟨a, n, t, t', rfl, hm⟩ := tup2 D
  obtain ⟨a2, n2, t2, t2', e, hm2⟩ := tup2 D'
  cases e
  have z := (N _ hm).1.symm.trans (N _ hm2).1
  simp only [Option.some.injEq, Obj.mk.injEq, Data.seq.injEq, Array.mk.injEq, List.cons.injEq, Value.int.injEq] at z
  exact z.2.2.1.1.1.1
theorem datall_get {l : List (Addr × Obj)} : ∀ {vs : List Value} {ds : List Dat}, DatAll l vs ds → vs.length = ds.length ∧ ∀ (i : Nat) v, vs[i]? = some v → ∃ d, ds[i]? = some d ∧ DatIn l v d
  | _, _, .nil => ⟨rfl, fun i v h => by simp at h⟩
  | _, _, .cons h r => ⟨congrArg (· + 1) (datall_get r).1, fun i v e => by
    cases i with
    | zero => cases e; exact ⟨_, rfl, h⟩
    | succ i => exact (datall_get r).2 i v e⟩
theorem ints_firsts {l : List (Addr × Obj)} : ∀ {pairs : List (Int × Int)} {vs ys : List Value}, DatAll l vs (pairs.map fun p => .tuple [.int p.1, .int p.2]) → Paired (fun v y => ∀ k u, DatIn l v (.tuple [.int k, .int u]) → ∃ t, y = Value.int k t) vs ys → IntsAre ys (pairs.map (·.1))
  | [], _, _, .nil, .nil => .nil
  | _ :: _, _, _, .cons h r, .cons f t => by
    obtain ⟨u, rfl⟩ := f _ _ h
    exact .cons _ _ (ints_firsts r t)
theorem vs_eq {items : Array Value} {vs : List Value} (hlen : vs.length = items.size) (hP : ∀ (j : Nat) (v : Value), vs[j]? = some v → items[j]? = some v) : vs = items.toList := by
  apply List.ext_getElem?
  intro j
  by_cases h : j < vs.length
  · rw [List.getElem?_eq_getElem h, Array.getElem?_toList]
    exact (hP j _ (List.getElem?_eq_getElem h)).symm
  · rw [List.getElem?_eq_none (Nat.le_of_not_lt h), List.getElem?_eq_none (by rw [Array.length_toList, ← hlen]; exact Nat.le_of_not_lt h)]
theorem pairs_comp {w : World} {pairs : List (Int × Int)} (hc1 : pairs.length ≤ 1000) {l news : List (Addr × Obj)} {v : Value} {A : Around} {s : Shared} {g : Heap} {L : Addr} {m : Str → Option Value} {Q E : Value → Shared → Prop} {env : Env} {scope : Scope} {y : Str} {py pc ps : Pos} {kd : Nat}
    (D : DatIn l v (PD pairs)) (hs : ∀ q ∈ l, q ∈ news) (F : Fr g L s.heap m) (N : News g L s.heap news) (hh : A.handled = none)
    (hk : scope.kind = .function) (hl : scope.names.lookup y = some .local) (hd : (y == ("__debug__" : Str)) = false)
    (h : ∀ D ys n h' tk, IntsAre ys (pairs.map (·.1)) → Fr g L h' m → News g L h' ((D, listOf ys.toArray n) :: news) → (∀ q ∈ news, q.1 ≠ D) → s.heap.get? D = none → (∀ b o, s.heap.get? b = some o → h'.get? b = some o) → Q (.ref D) { s with heap := h', toks := tk }) :
    wpAny (model PG w) A (pyIter v) (CompPost PG w A env scope y [] (.Subscript (.Name y py) (.Constant (.int 0) kd pc) ps) Q) E s := by
  cases D with
  | @list a vs0 n0 _ hm hall =>
  have hlen0 : vs0.length = pairs.length := by have z := (datall_get hall).1; rw [List.length_map] at z; exact z
  have hlist : s.heap.IsList a vs0.toArray := ⟨_, (N _ (hs _ hm)).1, rfl, _, rfl⟩
  refine wpAny_pyIter_list hlist ?_
  have hlt := Heap.lt_size (N _ (hs _ hm)).1
  have hne : a ≠ s.heap.objs.size := Nat.ne_of_lt hlt
  refine ⟨fun _ => true, fun v y => ∀ k u, DatIn l v (.tuple [.int k, .int u]) → ∃ t, y = Value.int k t, s.heap.objs.size, _, _, vs0.toArray.size, _, _, rfl, Walks.list hh s.heap.objs.size a hne vs0.toArray, ?_, ⟨⟨_, Heap.get?_push_size _ rfl, rfl, rfl⟩, hlist.push _⟩, ?_, ⟨?_, ?_⟩, ?_⟩
  · rw [List.size_toArray, hlen0, sizeLine_eq]; omega
  · intro b hb
    rw [Heap.size_push]
    rcases List.mem_cons.mp hb with rfl | hb
    · exact Nat.lt_succ_self _
    · rw [List.mem_singleton.mp hb]
      exact Nat.lt_succ_of_lt hlt
  · intro C i v s₃ m₃ E' _ _ _ _ _
    exact wpAny_tests_nil ⟨rfl, s₃.heap, s₃.toks, rfl, fun _ _ e => e⟩
  · intro C i v s₃ m₃ E' hv _ hns hmm hkeep _
    rw [List.getElem?_toArray] at hv
    obtain ⟨d, hd1, hd2⟩ := (datall_get hall).2 i v hv
    rw [List.getElem?_map] at hd1
    obtain ⟨p, _, rfl⟩ := Option.map_eq_some_iff.mp hd1
    obtain ⟨at', n, t, t', rfl, hmt⟩ := tup2 hd2
    have hT : IsTup s₃.heap at' [Value.int p.1 t, Value.int p.2 t'].toArray := ⟨_, hkeep _ _ (fun z => absurd (Heap.lt_size (N _ (hs _ hmt)).1) (by rw [show at' = s.heap.objs.size from List.mem_singleton.mp z]; exact Nat.lt_irrefl _)) (Heap.get?_push_of_some _ (N _ (hs _ hmt)).1), rfl, _, rfl⟩
    refine Subscript_ (wpAny_Name (wpAny_loadName_local hk (by exact hl) hns hmm ?_) hd)
    refine wpAny_Constant_int ?_
    refine item_tuple (j := 0) (x := Value.int p.1 t) (by exact hT) (by decide) (by decide) rfl rfl ⟨?_, s₃.heap, s₃.toks + 1, rfl, fun _ _ e => e⟩
    intro k u hD
    exact ⟨t, by rw [tup2_one (fun q hq => N q (hs q hq)) hd2 hD]⟩
  · intro D h' tk ys vs hD hL hP hlen hv hF hkeep
    obtain ⟨n, hD'⟩ := hP
    have keep : ∀ b o, s.heap.get? b = some o → h'.get? b = some o := fun b o e => hkeep b o (fun z => absurd (Heap.lt_size e) (by rw [List.mem_singleton.mp z]; exact Nat.lt_irrefl _)) (Heap.get?_push_of_some _ e)
    have F3 := F.keeps keep
    have hg : s.heap.get? D = none := by
      cases z : s.heap.get? D with
      | none => rfl
      | some o' => rw [Heap.get?_push_of_some _ z] at hD; cases hD
    have hg0 : g.get? D = none := by
      cases z : g.get? D with
      | none => rfl
      | some o' => rw [F.keep _ _ z] at hg; cases hg
    have hDL : D ≠ L := by
      obtain ⟨oL, _, _, hLo, _⟩ := F.ns
      exact fun e => by rw [show D = L from e, hLo] at hg; cases hg
    have e1 := vs_eq hlen hv
    subst e1
    refine h D ys.toList n h' tk (ints_firsts hall (by rw [List.filter_eq_self.mpr (fun _ _ => rfl)] at hF; exact hF)) F3 ?_ ?_ hg keep
    · intro q hq
      rcases List.mem_cons.mp hq with rfl | hq
      · exact ⟨hD', hDL, hg0⟩
      · exact ⟨keep _ _ (N q hq).1, (N q hq).2⟩
    · intro q hq e
      have z := (N q hq).1
      rw [e, hg] at z; cases z
end
section
/-- the walk stops here -/
def Stopped (P : Prop) : Prop := P
theorem law_stop {M : Model} {A : Around} {a : Addr} {n : Str} {e : Bool} {Q E : Value → Shared → Prop} {s : Shared} (h : Stopped (wpAny M A (getAttr (.ref a) n e) Q E s)) : wpAny M A (getAttr (.ref a) n e) Q E s := h
theorem get_currsize {w : World} {c : CL} {o : CO} {st : CS} (I : CI w c o st) {r : List (Addr × Obj)} {A : Around} {s : Shared} {g : Heap} {L : Addr} {m : Str → Option Value} {p : Program} {loose : List Str} {mean : ExcName → Option Value} {mg mb : Str → Option Value} {Q E : Value → Shared → Prop}
    (F : Fr g L s.heap m) (N : News g L s.heap (c.led o ++ r)) (X : (KK w.params).In g) (T : Top p loose mean mg mb g) (hd' : A.in1.depth + 4 < recursionLimit) (hu : A.in1.units + 80 < cLine) (hh : A.handled = none) (hr : ∀ p ∈ r, p.1 ∉ c.adr)
    (h : ∀ h' tk t, Fr g L h' m → News g L h' (c.led o ++ r) → Q (.int (roomOf st.sz st.pairs) t) { s with heap := h', toks := tk }) :
    Stopped (wpAny (model PG w) A (getAttr (.ref c.x) (Str.ofString "currsize") true) Q E s) := by
  show wpAny (model PG w) A (getAttr (.ref c.x) (Str.ofString "currsize") true) Q E s
  refine get_prop F X (InstAt.of_news (C := 225) N (.head _) (.tail _ (.head _))) (by k_is) (by k_is) (by k_is) (by k_is) (by k_is) (by k_is) ?_
  refine currsize_spec I A.in1 { s with toks := s.toks + 1 } g L m _ p loose mean mg mb F (fun q hq => N q (List.mem_append_left _ hq)) X T hd' hu hh trivial ?_
  intro h' tk v o' hPq F' N' M'
  obtain ⟨⟨t, rfl⟩, rfl⟩ := hPq
  refine handed_on rfl ?_
  refine h h' tk t F' fun q hq => ?_
  rcases List.mem_append.mp hq with z | z
  · exact N' q z
  · obtain ⟨a, b⟩ := N q (List.mem_append_right _ z)
    exact ⟨M' _ _ (hr q z) a, b⟩
theorem get_maxsize {w : World} {c : CL} {o : CO} {st : CS} (I : CI w c o st) {r : List (Addr × Obj)} {A : Around} {s : Shared} {g : Heap} {L : Addr} {m : Str → Option Value} {p : Program} {loose : List Str} {mean : ExcName → Option Value} {mg mb : Str → Option Value} {Q E : Value → Shared → Prop}
    (F : Fr g L s.heap m) (N : News g L s.heap (c.led o ++ r)) (X : (KK w.params).In g) (T : Top p loose mean mg mb g) (hd' : A.in1.depth + 4 < recursionLimit) (hu : A.in1.units + 80 < cLine) (hh : A.handled = none) (hr : ∀ p ∈ r, p.1 ∉ c.adr)
    (h : ∀ h' tk t, Fr g L h' m → News g L h' (c.led o ++ r) → Q (.int st.room t) { s with heap := h', toks := tk }) :
    Stopped (wpAny (model PG w) A (getAttr (.ref c.x) (Str.ofString "maxsize") true) Q E s) := by
  show wpAny (model PG w) A (getAttr (.ref c.x) (Str.ofString "maxsize") true) Q E s
  refine get_prop F X (InstAt.of_news (C := 225) N (.head _) (.tail _ (.head _))) (by k_is) (by k_is) (by k_is) (by k_is) (by k_is) (by k_is) ?_
  refine maxsize_spec I A.in1 { s with toks := s.toks + 1 } g L m _ p loose mean mg mb F (fun q hq => N q (List.mem_append_left _ hq)) X T hd' hu hh trivial ?_
  intro h' tk v o' hPq F' N' M'
  obtain ⟨⟨t, rfl⟩, rfl⟩ := hPq
  refine handed_on rfl ?_
  refine h h' tk t F' fun q hq => ?_
  rcases List.mem_append.mp hq with z | z
  · exact N' q z
  · obtain ⟨a, b⟩ := N q (List.mem_append_right _ z)
    exact ⟨M' _ _ (hr q z) a, b⟩
end
section
local macro_rules | `(tactic| walk_at "getAttr ref") => `(tactic| (with_reducible refine law_stop ?_))
/-- between two turns of the law's last loop -/
structure TJ (w : World) (c : CL) (room : Int) (sz : Bool) (f : Addr) (st0 : List (Addr × Obj)) (n : Nat) (vp : Value) (o : CO) (st : CS) (lx : List (Addr × Obj)) : Prop where
  sub : ∀ q ∈ st0, q ∈ lx
  off : ∀ q ∈ lx, q.1 ∉ c.adr
  ci : CI w c o st
  e1 : st.sz = sz
  e2 : st.room = room
  e3 : st.fch = f
  wf : WfK (st.pairs.map (·.1)) st.ks st.ix
  pi : PI sz room st.pairs
  hp : DatIn lx vp (PD st.pairs)
  ul : o.us.length + st.pairs.length ≤ 500
  len : st.pairs.length = n
theorem newsC {g h : Heap} {L : Addr} {c : CL} {o : CO} {d : Addr × Obj} {l : List (Addr × Obj)} (N : News g L h (d :: (c.led o ++ l))) : News g L h (c.led o ++ d :: l) := fun q hq => N q (mvC q hq)
theorem look_mem {k : Int} : ∀ {c : List (Int × Int)}, kdfHas c k = true → (k, kdfLook c k 0) ∈ c
  | [], h => by cases h
  | p :: c, h => by
    rw [look_cons]
    by_cases e : p.1 = k
    · rw [if_pos e, ← e]; exact .head _
    · rw [if_neg e]
      refine .tail _ (look_mem ?_)
      rw [has_iff] at h ⊢
      rcases List.mem_cons.mp h with h | h
      · exact (e h.symm).elim
      · exact h
section
variable {prog : Program} {w : World} {A : Around} {E : Value → Shared → Prop} {s : Shared} {h₀ : Heap} {L : Addr} {news n₁ n₂ : List (Addr × Obj)} {a b : Addr} {xs ys : List Value} {ka kb : Nat} {ds : List Dat} {Q : Value → Shared → Prop}
theorem eq_same (N : News h₀ L s.heap news) (ma : (a, listOf xs.toArray ka) ∈ news) (Da : DatAll n₁ xs ds) (sa : ∀ p ∈ n₁, p ∈ news) (mb : (b, listOf ys.toArray kb) ∈ news) (Db : DatAll n₂ ys ds) (sb : ∀ p ∈ n₂, p ∈ news) (ok : ∀ d ∈ ds, kqdOk 8 d = true) (hu : A.units + 64 < cLine) (h : Q (.bool true) s) :
    wpAny (model prog w) A (compareOp .Eq (.ref a) (.ref b)) Q E s := by
  refine kqd_eq N ma rfl rfl Da sa mb rfl rfl Db sb ok ok hu ?_
  have e : ∀ i : Decidable (ds = ds), (@decide (ds = ds) i) = true := fun i => by simp
  rw [e]; exact h
theorem in_same {x : Value} {d : Dat} (N : News h₀ L s.heap news) (ma : (a, listOf xs.toArray ka) ∈ news) (Da : DatAll n₁ xs ds) (sa : ∀ p ∈ n₁, p ∈ news) (Dx : DatIn n₂ x d) (sx : ∀ p ∈ n₂, p ∈ news) (ok : ∀ d ∈ ds, kqdOk 8 d = true) (hd : d ∈ ds) (hu : A.units + 64 < cLine) (h : Q (.bool false) s) :
    wpAny (model prog w) A (compareOp .NotIn x (.ref a)) Q E s := by
  refine kqd_notIn N ma rfl rfl Da sa Dx sx ok (ok d hd) hu ?_
  have e : ∀ i : Decidable (d ∈ ds), (!@decide (d ∈ ds) i) = false := fun i => by simp [hd]
  rw [e]; exact h
end
inductive TInv (w : World) (c : CL) (room : Int) (sz : Bool) (f : Addr) (st0 : List (Addr × Obj)) (mm : Option Value → Value → Str → Option Value) (n : Nat) (m₁ : Str → Option Value) (news₁ : List (Addr × Obj)) : Prop
  | mk (vg : Option Value) (vp : Value) (o : CO) (st : CS) (lx : List (Addr × Obj)) (em : m₁ = mm vg vp) (en : news₁ = c.led o ++ lx) (J : TJ w c room sz f st0 n vp o st lx)
theorem law_tail {w : World} {base : Heap} {L fa a f : Addr} {s : Shared} {p : Program} {loose : List Str} {mean : ExcName → Option Value} {mg mb : Str → Option Value} {nums : List Int} {room : Int} {tr : Tok} {sz : Bool} {c : CL} {o : CO} {st : CS} {Ch : Heap → Prop} {st0 lx : List (Addr × Obj)} {pt : Array Value} {vn vd vk vv vdue : Option Value} {vp vsh : Value} {n0 : Nat} {Q : Flow → Shared → Prop} {E : Value → Shared → Prop}
    (B : Below callerA base [] base) (F : Fr base L s.heap (lawM vn vd vk vv vdue vp vsh c.x f sz room tr a))
    (X : (KK w.params).In base) (T : Top p loose mean mg mb base) (N : News base L s.heap (c.led o ++ lx)) (hr0 : 0 ≤ room) (J : TJ w c room sz f st0 n0 vp o st lx)
    (H : ChS w c f nums Ch) (hCh : ∀ h m l, Fr base L h m → News base L h l → (∀ q ∈ st0, q ∈ l) → Ch h) (hpt : (277, tabObj pt) ∈ st0)
    (hQ : ∀ h' tk m' news' ps, Fr base L h' m' → News base L h' news' → (277, tabObj ps) ∈ news' → Q (.ret (.bool true)) { s with heap := h', toks := tk }) :
    wpAny (model PG w) (callerA.deeper (envOfC "law" (scopeS lawSt) L fa (.ref 279))) (execs ((bodyS lawSt).drop 9) (envOfC "law" (scopeS lawSt) L fa (.ref 279))) Q E s := by
  have hh : (callerA.deeper (envOfC "law" (scopeS lawSt) L fa (.ref 279))).handled = none := rfl
  obtain ⟨x, dx, ad, az, ai, ak, al⟩ := c
  dsimp only at F
  have e1 : (bodyS lawSt).drop 9 = (bodyS lawSt).drop 9 := rfl
  conv at e1 => rhs; whnf
  rw [e1]
  clear e1
  refine wpAny_mono (E := fun _ _ => False) ?_ (fun _ _ h => h) (fun _ _ h => h.elim)
  k_steps
  refine While_inv (TInv w ⟨x, dx, ad, az, ai, ak, al⟩ room sz f st0 (fun vg vp y => if y = Str.ofString "gone" then vg else lawM vn vd vk vv vdue vp vsh x f sz room tr a y)) (n₀ := n0) (fr_cong F ?fr) N ⟨none, vp, o, st, lx, rfl, rfl, J⟩ ?turn PassesOwn.never
  case fr =>
    intro y
    by_cases h1 : y = Str.ofString "gone"
    · subst h1; rfl
    simp only [if_neg h1]
  case turn =>
    rintro n m₁ news₁ h₁ tk₁ F₁ N₁ ⟨vg, vp, ⟨es2, n2, oD2, oZ2, oI2, vs2, nk2, us2, ns2⟩, st, lx, rfl, rfl, J⟩
    k_steps
    rename Fr base _ _ _ => kF
    rename News base _ _ _ => kN
    rename Addr => lst
    have l1 : ∀ q ∈ CL.led ⟨x, dx, ad, az, ai, ak, al⟩ ⟨es2, n2, oD2, oZ2, oI2, vs2, nk2, us2, ns2⟩ ++ lx, q.1 < lst := by assumption
    have offn := fun (z : _) => Nat.lt_irrefl _ (adr_lt (c := ⟨x, dx, ad, az, ai, ak, al⟩) (o := ⟨es2, n2, oD2, oZ2, oI2, vs2, nk2, us2, ns2⟩) l1 _ z)
    have hfin : st.pairs = [] ∨ st.pairs ≠ [] := Decidable.em _
    have kN2 := newsC (c := ⟨x, dx, ad, az, ai, ak, al⟩) (o := ⟨es2, n2, oD2, oZ2, oI2, vs2, nk2, us2, ns2⟩) (l := lx) kN
    refine ne_nil kN J.hp (fun q hq => .tail _ (List.mem_append_right _ hq)) (.head _) (okPD _) (Nat.le_of_ble_eq_true rfl) ?off ?on
    case off =>
      intro hnil
      have hnil2 : st.pairs = [] := List.map_eq_nil_iff.mp hnil
      clear kN
      k_steps
      rename Fr base _ _ _ => kF
      have offl : ∀ q ∈ (lst, listOf [].toArray 0) :: lx, q.1 ∉ CL.adr ⟨x, dx, ad, az, ai, ak, al⟩ := fun q hq => by
        rcases List.mem_cons.mp hq with rfl | hq
        · exact offn
        · exact J.off q hq
      refine (deed_popitem0 (sh₀ := []) (nums := nums) (Ch := Ch) J.ci J.wf hnil2).use (lx := (lst, listOf [].toArray 0) :: lx) B kF kN2 offl X T rfl (Nat.le_of_ble_eq_true rfl) (Nat.le_of_ble_eq_true rfl) rfl (hCh _ _ _ kF kN2 fun q hq => List.mem_append_right _ (.tail _ (J.sub q hq))) ?_
      intro h5 tk5 v5 o5 hPq F5 N5 fr5 keep5
      obtain ⟨ans5, st5, r5, sh5, ex5, hdue, D5, hex5, W5, z1, z2, z3, I5, hus5, S5, hr5⟩ := hPq
      rw [due_pop0 hnil2] at hdue
      obtain ⟨y1, y2, _⟩ : dMiss = ans5 ∧ st.pairs = st5.pairs ∧ [] = [] ++ sh5 := by simpa only [Prod.mk.injEq] using hdue
      subst y1
      obtain ⟨av, avs, an, rfl, hav, hall⟩ : ∃ av avs an, v5 = .ref av ∧ (av, listOf avs.toArray an) ∈ ex5 ∧ DatAll ex5 avs [.str (Str.ofString "missing")] := by
        exact dat_list D5
      have N6 := newsAdd N5 fr5 hex5
      rw [List.append_assoc] at N6
      clear N5 kN2 kF
      obtain ⟨es3, n3, oD3, oZ3, oI3, vs3, nk3, us3, ns3⟩ := o5
      k_steps
      rename News base _ _ _ => kN
      refine eq_same kN (.tail _ (List.mem_append_right _ (List.mem_append_right _ hav))) hall (fun q hq => .tail _ (List.mem_append_right _ (List.mem_append_right _ hq))) (.head _) (.cons (.str _ _) .nil) (fun q hq => hq) (fun d hd => by rw [List.mem_singleton.mp hd]; decide +kernel) (Nat.le_of_ble_eq_true rfl) ?_
      k_steps
      rename Fr base _ _ _ => kF
      rename Addr => lst2
      have l2 : ∀ q ∈ CL.led ⟨x, dx, ad, az, ai, ak, al⟩ ⟨es3, n3, oD3, oZ3, oI3, vs3, nk3, us3, ns3⟩ ++ (((lst, listOf [].toArray 0) :: lx) ++ ex5), q.1 < lst2 := by assumption
      have off2 := fun (z : _) => Nat.lt_irrefl _ (adr_lt (c := ⟨x, dx, ad, az, ai, ak, al⟩) (o := ⟨es3, n3, oD3, oZ3, oI3, vs3, nk3, us3, ns3⟩) l2 _ z)
      refine get_currsize (c := ⟨x, dx, ad, az, ai, ak, al⟩) (o := ⟨es3, n3, oD3, oZ3, oI3, vs3, nk3, us3, ns3⟩) (r := (lst2, _) :: (((lst, listOf [].toArray 0) :: lx) ++ ex5)) I5 kF (newsC (c := ⟨x, dx, ad, az, ai, ak, al⟩) (o := ⟨es3, n3, oD3, oZ3, oI3, vs3, nk3, us3, ns3⟩) kN) X T (Nat.le_of_ble_eq_true rfl) (Nat.le_of_ble_eq_true rfl) hh ?offr ?_
      case offr =>
        intro q hq
        rcases List.mem_cons.mp hq with rfl | hq
        · exact off2
        rcases List.mem_append.mp hq with hq | hq
        · exact offl q hq
        · exact (fr5 _ (hex5 q hq).1).2.2
      intro h7 tk7 t7 F7 N7
      rw [show roomOf st5.sz st5.pairs = 0 by rw [← y2, hnil2]; rfl]
      k_steps
      exact hQ _ _ _ _ _ F7 N7 (List.mem_append_right _ (.tail _ (List.mem_append_left _ (.tail _ (J.sub _ hpt)))))
    case on =>
      intro hne
      have hne2 : st.pairs ≠ [] := fun e => hne (by rw [e]; rfl)
      clear kN
      dsimp only [CL.led, CL.adr, List.cons_append, List.nil_append] at kN2
      obtain ⟨nd, ⟨gD, gZ, gG, ⟨tC, gC⟩, ⟨tM, gM⟩, gF, gI, gK, m1, m2, m3, m4, m5, m6, m7, hes⟩, hD, hZ, hI, hK, lo1, lo2, lo3⟩ := id J.ci
      dsimp only at gD gZ gG gC gM gF gI gK m1 m2 m3 m4 m5 m6 m7 hes hD hZ hI hK lo1 lo2 lo3
      k_steps
      have H2 : ChS w ⟨x, dx, ad, az, ai, ak, al⟩ st.fch nums Ch := by rw [J.e3]; exact H
      have five := J.pi.five
      have hul := J.ul
      have hkne : st.ks ≠ [] := fun e => hne2 (List.eq_nil_of_length_eq_zero (by have := J.wf.kslen; rw [e, List.length_map] at this; exact this.symm))
      have hpm : picked st.ks nums us2.length ∈ st.ks := picked_mem hkne
      have hpm2 : picked st.ks nums us2.length ∈ st.pairs.map (·.1) := J.wf.perm.mem_iff.mp hpm
      have hpk : kdfHas st.pairs (picked st.ks nums us2.length) = true := has_iff.mpr hpm2
      have offl : ∀ q ∈ (lst, listOf [].toArray 0) :: lx, q.1 ∉ CL.adr ⟨x, dx, ad, az, ai, ak, al⟩ := fun q hq => by
        rcases List.mem_cons.mp hq with rfl | hq
        · exact offn
        · exact J.off q hq
      rename Fr base _ _ _ => kF
      refine (popitem_spec (c := ⟨x, dx, ad, az, ai, ak, al⟩) (o := ⟨es2, n2, oD2, oZ2, oI2, vs2, nk2, us2, ns2⟩) J.ci J.wf hne2 five H2 (Nat.le_trans (Nat.le_add_right _ _) hul)).useX (r := (lst, listOf [].toArray 0) :: lx) kF kN2 X T (Nat.le_of_ble_eq_true rfl) (Nat.le_of_ble_eq_true rfl) hh (hCh _ _ _ kF kN2 fun q hq => .tail _ (.tail _ (.tail _ (.tail _ (.tail _ (.tail _ (.tail _ (.tail _ (J.sub q hq))))))))) offl ?_
      intro h5 tk5 v5 o5 hPq F5 N5 M5 G5
      obtain ⟨tup, t1, t2, nt, a5, rfl, ht0, ht1, I5, hus5, ha5, ⟨va, na, ea, ia⟩⟩ := hPq
      replace N5 := news_more (news_more N5 (G5 a5 ha5).1 ea) (G5 tup ht0).1 ht1
      clear kN2 kF gD gZ gG gC gM gF gI gK m1 m2 m3 m4 m5 m6 m7
      have N6 : News base L h5 ((tup, _) :: (CL.led ⟨x, dx, ad, az, ai, ak, al⟩ o5 ++ (lst, listOf [].toArray 0) :: (a5, listOf va.toArray na) :: lx)) := fun q hq => N5 q (by
        rcases List.mem_cons.mp hq with rfl | hq
        · exact List.mem_append_right _ (.head _)
        rcases List.mem_append.mp hq with z | z
        · exact List.mem_append_left _ (List.mem_append_left _ (List.mem_append_left _ z))
        rcases List.mem_cons.mp z with rfl | z
        · exact List.mem_append_left _ (List.mem_append_left _ (List.mem_append_right _ (.head _)))
        rcases List.mem_cons.mp z with rfl | z
        · exact List.mem_append_left _ (List.mem_append_right _ (.head _))
        exact List.mem_append_left _ (List.mem_append_left _ (List.mem_append_right _ (.tail _ z))))
      clear N5
      obtain ⟨es3, n3, oD3, oZ3, oI3, vs3, nk3, us3, ns3⟩ := o5
      dsimp only [CL.led, CL.adr, List.cons_append, List.nil_append] at N6
      obtain ⟨pv, pvs, pn, rfl, hpm3, hall⟩ : ∃ pv pvs pn, vp = .ref pv ∧ (pv, listOf pvs.toArray pn) ∈ lx ∧ DatAll lx pvs (st.pairs.map fun p => .tuple [.int p.1, .int p.2]) := by
        exact dat_list J.hp
      k_steps
      rename News base _ _ _ => kN
      have tl : ∀ q ∈ lx, q ∈ (tup, ({ cls := .type "tuple", data := .seq [Value.int (picked st.ks nums us2.length) t1, .int (kdfLook st.pairs (picked st.ks nums us2.length) 0) t2].toArray nt } : Obj)) :: (x, instObj 225 dx) :: (dx, dictOf es3 n3) :: (ad, oD3) :: (az, oZ3) :: (ai, oI3) :: (ak, listOf vs3.toArray nk3) :: (al, listOf us3.toArray ns3) :: (lst, listOf [].toArray 0) :: (a5, listOf va.toArray na) :: lx := fun q hq => .tail _ (.tail _ (.tail _ (.tail _ (.tail _ (.tail _ (.tail _ (.tail _ (.tail _ (.tail _ hq)))))))))
      refine in_same (d := .tuple [.int (picked st.ks nums us2.length), .int (kdfLook st.pairs (picked st.ks nums us2.length) 0)]) kN (tl _ hpm3) hall tl (.tuple (.head _) (.cons (.int _ _) (.cons (.int _ _) .nil))) (fun q hq => hq) (okPD _) (List.mem_map.mpr ⟨_, look_mem hpk, rfl⟩) (Nat.le_of_ble_eq_true rfl) ?_
      k_steps
      rename Fr base _ _ _ => kF
      have hsome := adr_some (c := ⟨x, dx, ad, az, ai, ak, al⟩) (o := ⟨es3, n3, oD3, oZ3, oI3, vs3, nk3, us3, ns3⟩) (fun q hq => kN q (.tail _ (List.mem_append_left ((lst, listOf [].toArray 0) :: (a5, listOf va.toArray na) :: lx) hq)))
      refine (without_spec J.hp (by omega)).use2 (l₀ := (tup, ({ cls := .type "tuple", data := .seq [Value.int (picked st.ks nums us2.length) t1, .int (kdfLook st.pairs (picked st.ks nums us2.length) 0) t2].toArray nt } : Obj)) :: (x, instObj 225 dx) :: (dx, dictOf es3 n3) :: (ad, oD3) :: (az, oZ3) :: (ai, oI3) :: (ak, listOf vs3.toArray nk3) :: (al, listOf us3.toArray ns3) :: (lst, listOf [].toArray 0) :: (a5, listOf va.toArray na) :: []) kF kN X T (Nat.le_of_ble_eq_true rfl) (Nat.le_of_ble_eq_true rfl) hh ?_
      rintro h8 tk8 v8 l8 hD8 hs8 F8 N8 new8 M8
      clear kN
      k_steps
      rename Fr base _ _ _ => kF
      rename News base _ _ _ => kN
      have hlt : (delI st.pairs (picked st.ks nums us2.length)).length = st.pairs.length - 1 := del_len J.pi.nd hpm2
      have hpos : 0 < st.pairs.length := List.length_pos_iff.mpr hne2
      have hlen := J.len
      refine WhileStep.intro (n' := (delI st.pairs (picked st.ks nums us2.length)).length) (m₂ := fun y => if y = Str.ofString "gone" then some (.ref tup) else lawM vn vd vk vv vdue v8 vsh x f sz room tr a y) (news₂ := CL.led ⟨x, dx, ad, az, ai, ak, al⟩ ⟨es3, n3, oD3, oZ3, oI3, vs3, nk3, us3, ns3⟩ ++ l8) (fr_cong kF fun y => ?fr2) (fun q hq => kN q ?nn) (by omega) ⟨_, v8, ⟨es3, n3, oD3, oZ3, oI3, vs3, nk3, us3, ns3⟩, { st with pairs := delI st.pairs (picked st.ks nums us2.length), ks := delK st.ks (kdfLook st.ix (picked st.ks nums us2.length) 0).toNat, ix := delX st.ks st.ix (picked st.ks nums us2.length) }, l8, rfl, rfl, ?tj⟩
      case fr2 =>
        by_cases h1 : y = Str.ofString "pairs"
        · subst h1; rfl
        by_cases h2 : y = Str.ofString "gone"
        · subst h2; rfl
        simp only [lawM, if_neg h1, if_neg h2]
      case nn =>
        rcases List.mem_append.mp hq with z | z
        · exact List.mem_append_left _ (.tail _ (List.mem_append_left [(lst, _), (a5, _)] z))
        · exact List.mem_append_right _ z
      case tj =>
        refine ⟨fun q hq => hs8 q (J.sub q hq), fun q hq hc => ?_, I5, J.e1, J.e2, J.e3, ?_, J.pi.del _, hD8, ?_, rfl⟩
        · rcases new8 q hq with z | z
          · obtain ⟨p, hp, e⟩ := List.mem_map.mp z
            exact J.off p hp (e ▸ hc)
          · exact hsome q.1 hc z
        · have := J.wf.del hpm2; rw [← del_keys] at this; exact this
        · show us3.length + (delI st.pairs (picked st.ks nums us2.length)).length ≤ 500
          have e1 : us3 = us2 ++ [.ref a5] := hus5
          have e2 : us2.length + st.pairs.length ≤ 500 := hul
          rw [e1, List.length_append, List.length_singleton]
          omega
end
section
theorem ownL {g h : Heap} {L : Addr} {l own lx : List (Addr × Obj)} {a b c : Addr × Obj} (N : News g L h (l ++ a :: b :: c :: (lx ++ own))) : News g L h (l ++ own ++ a :: b :: c :: lx) := fun q hq => by
  refine N q ?_
  rcases List.mem_append.mp hq with z | z
  · rcases List.mem_append.mp z with z | z
    · exact List.mem_append_left _ z
    · exact List.mem_append_right _ (.tail _ (.tail _ (.tail _ (List.mem_append_right _ z))))
  · refine List.mem_append_right _ ?_
    rcases List.mem_cons.mp z with rfl | z
    · exact .head _
    rcases List.mem_cons.mp z with rfl | z
    · exact .tail _ (.head _)
    rcases List.mem_cons.mp z with rfl | z
    · exact .tail _ (.tail _ (.head _))
    exact .tail _ (.tail _ (.tail _ (List.mem_append_left _ z)))
local macro_rules | `(tactic| walk_at "getAttr ref") => `(tactic| (with_reducible refine law_stop ?_))
theorem lawM_turn {vd vk vv vdue : Option Value} {vp vsh v a1 a2 a3 a4 a5 a6 : Value} {x f : Addr} {sz : Bool} {room : Int} {tr : Tok} {a : Addr} (y : Str) : (if y = Str.ofString "shown" then some a1 else if y = Str.ofString "pairs" then some a2 else if y = Str.ofString "due" then some a3 else if y = Str.ofString "value" then some a4 else if y = Str.ofString "key" then some a5 else if y = Str.ofString "deed" then some a6 else lawM (some v) vd vk vv vdue vp vsh x f sz room tr a y) = lawM (some v) (some a6) (some a5) (some a4) (some a3) a2 a1 x f sz room tr a y := by
  by_cases h1 : y = Str.ofString "due"
  · subst h1; rfl
  by_cases h2 : y = Str.ofString "value"
  · subst h2; rfl
  by_cases h3 : y = Str.ofString "key"
  · subst h3; rfl
  by_cases h4 : y = Str.ofString "deed"
  · subst h4; rfl
  by_cases h5 : y = Str.ofString "n"
  · subst h5; rfl
  by_cases h6 : y = Str.ofString "shown"
  · subst h6; rfl
  by_cases h7 : y = Str.ofString "pairs"
  · subst h7; rfl
  simp only [lawM, if_neg h1, if_neg h2, if_neg h3, if_neg h4, if_neg h5, if_neg h6, if_neg h7]
inductive LInv (w : World) (c : CL) (nums : List Int) (room : Int) (sz : Bool) (f : Addr) (st0 : List (Addr × Obj)) (tr : Tok) (a : Addr) (i : Nat) (m₁ : Str → Option Value) (news₁ : List (Addr × Obj)) : Prop
  | mk (vn vd vk vv vdue : Option Value) (vp vsh : Value) (o : CO) (st : CS) (shown : List (List Int)) (sr lx : List (Addr × Obj)) (em : m₁ = lawM vn vd vk vv vdue vp vsh c.x f sz room tr a) (en : news₁ = c.led o ++ lx) (J : LJ w c nums room sz f st0 i vp vsh o st shown sr lx)
/-- from the loop on -/
theorem law_loop {w : World} {base : Heap} {L fa a f nb lp lsh : Addr} {s : Shared} {p : Program} {loose : List Str} {mean : ExcName → Option Value} {mg mb : Str → Option Value} {ocn ocs : Obj} {ws : List Value} {nums : List Int} {room : Int} {tr : Tok} {sz : Bool} {c : CL} {o : CO} {Ch : Heap → Prop} {r : List (Addr × Obj)} {pt : Array Value} {Q : Flow → Shared → Prop} {E : Value → Shared → Prop}
    (B : Below callerA base [] base) (F : Fr base L s.heap (fun y => if y = Str.ofString "shown" then some (.ref lsh) else if y = Str.ofString "pairs" then some (.ref lp) else if y = Str.ofString "cache" then some (.ref c.x) else if y = Str.ofString "_law_choose" then some (.ref f) else if y = Str.ofString "sized" then some (.bool sz) else if y = Str.ofString "room" then some (.int room tr) else if y = Str.ofString "script" then some (.ref a) else none))
    (X : (KK w.params).In base) (T : Top p loose mean mg mb base) (N : News base L s.heap (c.led o ++ (lsh, listOf [].toArray 0) :: (lp, listOf [].toArray 0) :: (nb, listOf ws.toArray 0) :: (L + 1 + 1, ocs) :: (L + 1, ocn) :: r))
    (hoff : ∀ q ∈ (lsh, listOf [].toArray 0) :: (lp, listOf [].toArray 0) :: (nb, listOf ws.toArray 0) :: (L + 1 + 1, ocs) :: (L + 1, ocn) :: r, q.1 ∉ c.adr)
    (ds : ocs.data = .cell (some (.ref c.al))) (dn : ocn.data = .cell (some (.ref nb))) (hi : IntsAre ws nums) (h5 : 5 ≤ nums.length) (h39 : nums.length ≤ 39) (hr0 : 0 ≤ room)
    (I : CI w c o ⟨sz, room, f, [], [], []⟩) (hus : o.us = []) (H : ChS w c f nums Ch) (hCh : ∀ h m l, Fr base L h m → News base L h l → (∀ q ∈ (nb, listOf ws.toArray 0) :: (L + 1 + 1, ocs) :: (L + 1, ocn) :: r, q ∈ l) → Ch h) (hpt : (277, tabObj pt) ∈ r)
    (hQ : ∀ h' tk m' news' ps, Fr base L h' m' → News base L h' news' → (277, tabObj ps) ∈ news' → Q (.ret (.bool true)) { s with heap := h', toks := tk }) :
    wpAny (model PG w) (callerA.deeper (envOfC "law" (scopeS lawSt) L fa (.ref 279))) (exec (nthS (bodyS lawSt) 8) (envOfC "law" (scopeS lawSt) L fa (.ref 279))) (LoopQ w (callerA.deeper (envOfC "law" (scopeS lawSt) L fa (.ref 279))) ((bodyS lawSt).drop 9) (envOfC "law" (scopeS lawSt) L fa (.ref 279)) Q E) E s := by
  have hh : (callerA.deeper (envOfC "law" (scopeS lawSt) L fa (.ref 279))).handled = none := rfl
  obtain ⟨x, dx, ad, az, ai, ak, al⟩ := c
  obtain ⟨es, n, oD, oZ, oI, vs0, nk, us, ns0⟩ := o
  dsimp only [CL.led, CL.adr, List.cons_append, List.nil_append] at F N hoff ds hus
  have e1 : nthS (bodyS lawSt) 8 = nthS (bodyS lawSt) 8 := rfl
  conv at e1 => rhs; whnf
  rw [e1]
  clear e1
  refine wpAny_mono (E := fun _ _ => False) ?_ (fun _ _ h => h) (fun _ _ h => h.elim)
  refine For_invV base (by exact rfl) (by exact rfl) ?_ (by intro _; rfl) PassesOwn.never
  k_steps
  rename Fr base _ _ _ => kF
  rename News base _ _ _ => kN
  rename IntsAre _ (List.drop 1 nums) => hI
  rename _ < _ ∧ _ < _ ∧ _ => ll
  obtain ⟨q1, q2, q3, q4, q5, q6, q7, _⟩ := ll
  have hsl := off7 ⟨q1, q2, q3, q4, q5, q6, q7⟩
  have kN2 := newsC (c := ⟨x, dx, ad, az, ai, ak, al⟩) (o := ⟨es, n, oD, oZ, oI, vs0, nk, us, ns0⟩) (l := (lsh, listOf [].toArray 0) :: (lp, listOf [].toArray 0) :: (nb, listOf ws.toArray 0) :: (L + 1 + 1, ocs) :: (L + 1, ocn) :: r) kN
  refine kdl_iter (LInv w ⟨x, dx, ad, az, ai, ak, al⟩ nums room sz f ((nb, listOf ws.toArray 0) :: (L + 1 + 1, ocs) :: (L + 1, ocn) :: r) tr a) hh (List.mem_append_right _ (.head _)) kF kN2 ?start ?turn ?done
  case start =>
    refine ⟨none, none, none, none, none, .ref lp, .ref lsh, ⟨es, n, oD, oZ, oI, vs0, nk, us, ns0⟩, ⟨sz, room, f, [], [], []⟩, [], [], _, funext fun y => lawM_start y, rfl, ?_⟩
    refine ⟨fun q hq => .tail _ (.tail _ (.tail _ hq)), fun q hq => ?_, I, rfl, rfl, rfl, WfK.nil, PI.nil hr0, hus, .nil, (fun _ h => nomatch h), .list (.tail _ (.tail _ (.head _))) .nil, .list (.tail _ (.head _)) .nil, Nat.zero_le _⟩
    rcases List.mem_cons.mp hq with rfl | hq
    · exact hsl
    · exact hoff q hq
  case done =>
    intro m₁ news₁ h tk hPq F1 N1
    obtain ⟨vn, vd, vk, vv, vdue, vp, vsh, o, st, shown, sr, lx, rfl, rfl, J⟩ := hPq
    have hul : o.us.length = shown.length := by rw [J.us, refsOf, List.length_map, J.seen.length]
    have hl0 := J.len
    have hl1 := J.pi.five
    have hl2 := hI.length
    have hl3 : (List.drop 1 nums).length ≤ 38 := by rw [List.length_drop]; omega
    refine law_tail (c := ⟨x, dx, ad, az, ai, ak, al⟩) (n0 := st.pairs.length) B F1 X T N1 hr0 ⟨J.sub, J.off, J.ci, J.e1, J.e2, J.e3, J.wf, J.pi, J.hp, by omega, rfl⟩ H hCh (.tail _ (.tail _ (.tail _ hpt))) ?_
    exact fun h' tk m' news' ps a b c => hQ h' tk m' news' ps a b c
  case turn =>
    intro i v m₁ news₁ h tk own hi' hoff' hml hPq F1 N1
    obtain ⟨vn, vd, vk, vv, vdue, vp, vsh, o, st, shown, sr, lx, rfl, rfl, J⟩ := hPq
    have F2 := fr_cong F1 lawM_n
    clear F1
    obtain ⟨es2, n2, oD2, oZ2, oI2, vs2, nk2, us2, ns2⟩ := o
    have N2 := turnN N1 J.sub
    clear N1
    dsimp only [CL.led, CL.adr, List.cons_append, List.nil_append] at N2
    have hiv : i < (List.drop 1 nums).length := by rw [← hI.length]; exact (List.getElem?_eq_some_iff.mp hi').1
    obtain ⟨t, hv⟩ := hI.get i _ (List.getElem?_eq_getElem hiv)
    rw [hi'] at hv
    obtain rfl := Option.some.inj hv
    generalize hk : (List.drop 1 nums)[i] = k at *
    have hlen1 : (List.drop 1 nums).length ≤ 38 := by rw [List.length_drop]; omega
    have hlen2 : shown.length ≤ 500 := Nat.le_trans J.len (by omega)
    have hnn : nums ≠ [] := fun e => by rw [e] at h5; exact absurd h5 (by decide)
    obtain ⟨a1, a2⟩ := fmod_lt (a := k) (b := 10) (by decide)
    obtain ⟨b1, b2⟩ := fmod_lt (a := k.fdiv 10) (b := 5) (by decide)
    k_steps
    rename Fr base _ _ _ => kF
    rename News base _ _ _ => kN
    have hsome := adr_some (c := ⟨x, dx, ad, az, ai, ak, al⟩) (o := ⟨es2, n2, oD2, oZ2, oI2, vs2, nk2, us2, ns2⟩) (fun q hq => kN q (List.mem_append_left ((nb, listOf ws.toArray 0) :: (L + 1 + 1, ocs) :: (L + 1, ocn) :: (lx ++ own)) hq))
    have offr : ∀ q ∈ (nb, listOf ws.toArray 0) :: (L + 1 + 1, ocs) :: (L + 1, ocn) :: (lx ++ own), q.1 ∉ CL.adr ⟨x, dx, ad, az, ai, ak, al⟩ := fun q hq => by
      rcases List.mem_cons.mp hq with rfl | hq
      · exact J.off _ (J.sub _ (.head _))
      rcases List.mem_cons.mp hq with rfl | hq
      · exact J.off _ (J.sub _ (.tail _ (.head _)))
      rcases List.mem_cons.mp hq with rfl | hq
      · exact J.off _ (J.sub _ (.tail _ (.tail _ (.head _))))
      rcases List.mem_append.mp hq with hq | hq
      · exact J.off _ hq
      · exact fun z => hoff' q hq q.1 (by rw [List.map_append]; exact List.mem_append_left _ z) rfl
    refine (due_spec (sz := sz) (nb := nb) (n2 := 0) (r := (nb, listOf ws.toArray 0) :: (L + 1 + 1, ocs) :: (L + 1, ocn) :: lx) (J.hp.mono fun q hq => .tail _ (.tail _ (.tail _ hq))) (J.hsh.mono fun q hq => .tail _ (.tail _ (.tail _ hq))) (.head _) hi J.pi.five hnn (Nat.le_trans h39 (by decide)) hlen2 J.pi.nd a1 a2).use2 (l₀ := CL.led ⟨x, dx, ad, az, ai, ak, al⟩ ⟨es2, n2, oD2, oZ2, oI2, vs2, nk2, us2, ns2⟩ ++ own) kF (ownL kN) X T (Nat.le_of_ble_eq_true rfl) (Nat.le_of_ble_eq_true rfl) hh ?_
    intro h4 tk4 v4 l4 hPq hs4 F4 N4 new4 M4
    obtain ⟨ans, p', sh', hdue, hD⟩ := hPq
    obtain ⟨ta, ax, ay, az', tn, rfl, hmt, hD6, hD7, hD8⟩ := tri hD
    have hT := News.isTup N4 (List.mem_append_right _ hmt)
    refine unpackN_ F4 N4 hT hh (by exact rfl) (by exact rfl) ?_
    intro h6 F6 N6
    have own4 : ∀ q ∈ l4, ∀ p ∈ own, p.1 ≠ q.1 := fun q hq p hp e => by
      rcases new4 q hq with z | z
      · obtain ⟨p', hp', e'⟩ := List.mem_map.mp z
        refine hoff' p hp q.1 ?_ e
        rw [List.map_append]
        refine List.mem_append_right _ (List.mem_map.mpr ⟨p', ?_, e'⟩)
        rcases List.mem_cons.mp hp' with rfl | hp'
        · exact J.sub _ (.head _)
        rcases List.mem_cons.mp hp' with rfl | hp'
        · exact J.sub _ (.tail _ (.head _))
        rcases List.mem_cons.mp hp' with rfl | hp'
        · exact J.sub _ (.tail _ (.tail _ (.head _)))
        exact hp'
      · have w := (kN p (.tail _ (.tail _ (.tail _ (.tail _ (.tail _ (.tail _ (.tail _ (.tail _ (.tail _ (.tail _ (List.mem_append_right _ hp)))))))))))).1
        rw [e] at w
        exact absurd (w.symm.trans z) (fun h => nomatch h)
    have hofl4 : ∀ q ∈ l4, q.1 ∉ CL.adr ⟨x, dx, ad, az, ai, ak, al⟩ := fun q hq hc => by
      rcases new4 q hq with z | z
      · obtain ⟨p, hp, e⟩ := List.mem_map.mp z
        exact offr p (by rcases List.mem_cons.mp hp with rfl | hp; exact .head _; rcases List.mem_cons.mp hp with rfl | hp; exact .tail _ (.head _); rcases List.mem_cons.mp hp with rfl | hp; exact .tail _ (.tail _ (.head _)); exact .tail _ (.tail _ (.tail _ (List.mem_append_left _ hp)))) (e ▸ hc)
      · exact hsome q.1 hc z
    have hofl5 : ∀ q ∈ own ++ l4, q.1 ∉ CL.adr ⟨x, dx, ad, az, ai, ak, al⟩ := fun q hq => by
      rcases List.mem_append.mp hq with z | z
      · exact offr q (.tail _ (.tail _ (.tail _ (List.mem_append_right _ z))))
      · exact hofl4 q z
    k_steps
    rename Fr base _ _ _ => kF
    rename News base _ _ _ => kN
    have hul : us2.length = shown.length := by rw [show us2 = refsOf sr from J.us, refsOf, List.length_map, J.seen.length]
    have H2 : ChS w ⟨x, dx, ad, az, ai, ak, al⟩ st.fch nums Ch := by rw [J.e3]; exact H
    have five := J.pi.five
    have hown6 := fun p (hp : p ∈ own) => (kN p (List.mem_append_left _ (List.mem_append_right _ hp))).1
    refine (deed_spec (nums := nums) (sh₀ := shown) (st := st) (o := ⟨es2, n2, oD2, oZ2, oI2, vs2, nk2, us2, ns2⟩) J.ci J.wf five H2 (by show us2.length + _ ≤ 500; rw [hul]; have := J.len; omega) hul.symm (by rw [J.e1, J.e2]; exact J.pi.room) a1 a2).use (lx := own ++ l4) B kF (by rw [← List.append_assoc]; exact kN) hofl5 X T rfl (Nat.le_of_ble_eq_true rfl) (Nat.le_of_ble_eq_true rfl) rfl (hCh _ _ _ kF kN fun q hq => List.mem_append_right _ (hs4 q (.tail _ (.tail _ (.tail _ (J.sub q hq)))))) ?_
    intro h7 tk7 v7 o7 hPq F7 N7 fr7 keep7
    obtain ⟨ans7, st7, r7, sh7, ex7, e7, D7, hex7, W7, z1, z2, z3, I7, u7, S7, hr7⟩ := hPq
    have e8 : dueL sz room nums st.pairs shown (k.fmod 10) ((k.fdiv 10).fmod 5) ((k.fdiv 50).fmod 30) = (ans7, st7.pairs, shown ++ sh7) := by rw [← J.e1, ← J.e2]; exact e7
    rw [hdue] at e8
    obtain ⟨y1, y2, y3⟩ : ans = ans7 ∧ p' = st7.pairs ∧ sh' = shown ++ sh7 := by simpa only [Prod.mk.injEq] using e8
    subst y1 y2 y3
    obtain ⟨P7, L7⟩ := PI.due J.pi ⟨b1, b2⟩ hr0 hdue
    obtain ⟨dsl, y4, okd⟩ := due_ans hdue
    subst y4
    have N8 := newsAdd (newsAdd N7 fr7 hex7) fr7 hr7
    obtain ⟨es3, n3, oD3, oZ3, oI3, vs3, nk3, us3, ns3⟩ := o7
    have stat4 : ∀ q ∈ (nb, listOf ws.toArray 0) :: (L + 1 + 1, ocs) :: (L + 1, ocn) :: r, q ∈ l4 := fun q hq => hs4 q (.tail _ (.tail _ (.tail _ (J.sub q hq))))
    have N9 := turnN (r := r) (own := ex7 ++ r7) (by rw [← List.append_assoc]; exact N8) (fun q hq => List.mem_append_right _ (stat4 q hq))
    clear N8 N7 kN
    dsimp only [CL.led, CL.adr, List.cons_append, List.nil_append] at N9 u7
    have hus7 : us3 = refsOf (sr ++ r7) := by rw [show us3 = us2 ++ refsOf r7 from u7, show us2 = refsOf sr from J.us, refsOf, refsOf, refsOf, List.map_append]
    have S8 := J.seen.append S7
    k_steps
    rename Fr base _ _ _ => kF
    rename News base _ _ _ => kN
    have m4 : ∀ q ∈ l4, q ∈ (x, instObj 225 dx) :: (dx, dictOf es3 n3) :: (ad, oD3) :: (az, oZ3) :: (ai, oI3) :: (ak, listOf vs3.toArray nk3) :: (al, listOf us3.toArray ns3) :: (nb, listOf ws.toArray 0) :: (L + 1 + 1, ocs) :: (L + 1, ocn) :: (own ++ l4 ++ (ex7 ++ r7)) := fun q hq => .tail _ (.tail _ (.tail _ (.tail _ (.tail _ (.tail _ (.tail _ (.tail _ (.tail _ (.tail _ (List.mem_append_left _ (List.mem_append_right _ hq)))))))))))
    have m7 : ∀ q ∈ ex7 ++ r7, q ∈ (x, instObj 225 dx) :: (dx, dictOf es3 n3) :: (ad, oD3) :: (az, oZ3) :: (ai, oI3) :: (ak, listOf vs3.toArray nk3) :: (al, listOf us3.toArray ns3) :: (nb, listOf ws.toArray 0) :: (L + 1 + 1, ocs) :: (L + 1, ocn) :: (own ++ l4 ++ (ex7 ++ r7)) := fun q hq => .tail _ (.tail _ (.tail _ (.tail _ (.tail _ (.tail _ (.tail _ (.tail _ (.tail _ (.tail _ (List.mem_append_right _ hq))))))))))
    refine ne_same kN D7 (fun q hq => m7 q (List.mem_append_left _ hq)) hD6 m4 okd (Nat.le_of_ble_eq_true rfl) ?_
    k_steps
    have msr : ∀ q ∈ sr ++ r7, q ∈ (x, instObj 225 dx) :: (dx, dictOf es3 n3) :: (ad, oD3) :: (az, oZ3) :: (ai, oI3) :: (ak, listOf vs3.toArray nk3) :: (al, listOf us3.toArray ns3) :: (nb, listOf ws.toArray 0) :: (L + 1 + 1, ocs) :: (L + 1, ocn) :: (own ++ l4 ++ (ex7 ++ r7)) := fun q hq => by
      rcases List.mem_append.mp hq with z | z
      · exact m4 q (hs4 q (.tail _ (.tail _ (.tail _ (J.srx q z)))))
      · exact m7 q (List.mem_append_right _ z)
    have dseen : DatIn ((x, instObj 225 dx) :: (dx, dictOf es3 n3) :: (ad, oD3) :: (az, oZ3) :: (ai, oI3) :: (ak, listOf vs3.toArray nk3) :: (al, listOf us3.toArray ns3) :: (nb, listOf ws.toArray 0) :: (L + 1 + 1, ocs) :: (L + 1, ocn) :: (own ++ l4 ++ (ex7 ++ r7))) (.ref al) (SD (shown ++ sh7)) := .list (.tail _ (.tail _ (.tail _ (.tail _ (.tail _ (.tail _ (.head _))))))) (by rw [show us3 = refsOf (sr ++ r7) from hus7] at msr ⊢; exact seen_dat S8 msr)
    refine ne_same kN dseen (fun _ h => h) hD8 m4 (.inl (okSD _)) (Nat.le_of_ble_eq_true rfl) ?_
    k_steps
    have off9 : ∀ q ∈ (nb, listOf ws.toArray 0) :: (L + 1 + 1, ocs) :: (L + 1, ocn) :: (own ++ l4 ++ (ex7 ++ r7)), q.1 ∉ CL.adr ⟨x, dx, ad, az, ai, ak, al⟩ := fun q hq => by
      rcases List.mem_cons.mp hq with rfl | hq
      · exact J.off _ (J.sub _ (.head _))
      rcases List.mem_cons.mp hq with rfl | hq
      · exact J.off _ (J.sub _ (.tail _ (.head _)))
      rcases List.mem_cons.mp hq with rfl | hq
      · exact J.off _ (J.sub _ (.tail _ (.tail _ (.head _))))
      rcases List.mem_append.mp hq with hq | hq
      · exact hofl5 q hq
      rcases List.mem_append.mp hq with hq | hq
      · exact (fr7 _ (hex7 q hq).1).2.2
      · exact (fr7 _ (hr7 q hq).1).2.2
    have l50 : st7.pairs.length ≤ 5 := P7.five
    rename Fr base _ _ _ => kF
    refine cache_comp (c := ⟨x, dx, ad, az, ai, ak, al⟩) (o := ⟨es3, n3, oD3, oZ3, oI3, vs3, nk3, us3, ns3⟩) (r := (nb, listOf ws.toArray 0) :: (L + 1 + 1, ocs) :: (L + 1, ocn) :: (own ++ l4 ++ (ex7 ++ r7))) I7 (by omega) kF kN X T (Nat.le_of_ble_eq_true rfl) (Nat.le_of_ble_eq_true rfl) hh off9 rfl rfl (by decide) ?_
    intro d9 ys9 n9 h9 tk9 hi9 F9 N9 ne9 fr9
    k_steps
    refine pairs_comp (by omega) hD7 (fun q hq => .tail _ (List.mem_append_right _ (.tail _ (.tail _ (.tail _ (List.mem_append_left _ (List.mem_append_right _ hq))))))) F9 N9 hh rfl rfl (by decide) ?_
    intro d10 ys10 n10 h10 tk10 hi10 F10 N10 ne10 fr10 kp10
    k_steps
    have N11 : News base L h10 (CL.led ⟨x, dx, ad, az, ai, ak, al⟩ ⟨es3, n3, oD3, oZ3, oI3, vs3, nk3, us3, ns3⟩ ++ (d10, listOf ys10.toArray n10) :: (d9, listOf ys9.toArray n9) :: (nb, listOf ws.toArray 0) :: (L + 1 + 1, ocs) :: (L + 1, ocn) :: (own ++ l4 ++ (ex7 ++ r7))) := fun q hq => by
      rcases List.mem_append.mp hq with z | z
      · exact N10 q (.tail _ (.tail _ (List.mem_append_left _ z)))
      · rcases List.mem_cons.mp z with rfl | z
        · exact N10 _ (.head _)
        rcases List.mem_cons.mp z with rfl | z
        · exact N10 _ (.tail _ (.head _))
        exact N10 q (.tail _ (.tail _ (List.mem_append_right _ z)))
    clear N10
    have hfresh := adr_some (c := ⟨x, dx, ad, az, ai, ak, al⟩) (o := ⟨es3, n3, oD3, oZ3, oI3, vs3, nk3, us3, ns3⟩) (fun q hq => N9 q (.tail _ (List.mem_append_left _ hq)))
    have hfresh7 := adr_some (c := ⟨x, dx, ad, az, ai, ak, al⟩) (o := ⟨es3, n3, oD3, oZ3, oI3, vs3, nk3, us3, ns3⟩) (fun q hq => kN q (List.mem_append_left ((nb, listOf ws.toArray 0) :: (L + 1 + 1, ocs) :: (L + 1, ocn) :: (own ++ l4 ++ (ex7 ++ r7))) hq))
    have off11 : ∀ q ∈ (d10, listOf ys10.toArray n10) :: (d9, listOf ys9.toArray n9) :: (nb, listOf ws.toArray 0) :: (L + 1 + 1, ocs) :: (L + 1, ocn) :: (own ++ l4 ++ (ex7 ++ r7)), q.1 ∉ CL.adr ⟨x, dx, ad, az, ai, ak, al⟩ := fun q hq => by
      rcases List.mem_cons.mp hq with rfl | hq
      · exact fun z => hfresh _ z fr10
      rcases List.mem_cons.mp hq with rfl | hq
      · exact fun z => hfresh7 _ z fr9
      exact off9 q hq
    refine (len_spec I7 (by omega)).useX (r := (d10, listOf ys10.toArray n10) :: (d9, listOf ys9.toArray n9) :: (nb, listOf ws.toArray 0) :: (L + 1 + 1, ocs) :: (L + 1, ocn) :: (own ++ l4 ++ (ex7 ++ r7))) F10 N11 X T (Nat.le_of_ble_eq_true rfl) (Nat.le_of_ble_eq_true rfl) hh trivial off11 ?_
    intro h12 tk12 v12 o12 hPq F12 N12 M12 _
    obtain ⟨⟨t12, rfl⟩, rfl⟩ := hPq
    obtain ⟨ap, pvs, pn, rfl, hap, hall⟩ : ∃ ap pvs pn, ay = .ref ap ∧ (ap, listOf pvs.toArray pn) ∈ l4 ∧ DatAll l4 pvs (st7.pairs.map fun p => .tuple [.int p.1, .int p.2]) := by
      exact dat_list hD7
    have hpl : pvs.length = st7.pairs.length := by have z := (datall_get hall).1; rw [List.length_map] at z; exact z
    refine ⟨⟨by omega, by omega⟩, ?_⟩
    k_steps
    refine l_lenv N12 (List.mem_append_right _ (.tail _ (.tail _ (.tail _ (.tail _ (.tail _ (List.mem_append_left _ (List.mem_append_right _ hap)))))))) (by omega) ?_
    rw [hpl]
    k_steps
    · exact ((by assumption : (↑st7.pairs.length : Int) ≠ ↑st7.pairs.length) rfl).elim
    have e71 : st7.sz = sz := z1.trans J.e1
    have e72 : st7.room = room := z2.trans J.e2
    have hroom := P7.room
    refine get_currsize (c := ⟨x, dx, ad, az, ai, ak, al⟩) (o := ⟨es3, n3, oD3, oZ3, oI3, vs3, nk3, us3, ns3⟩) (r := (d10, listOf ys10.toArray n10) :: (d9, listOf ys9.toArray n9) :: (nb, listOf ws.toArray 0) :: (L + 1 + 1, ocs) :: (L + 1, ocn) :: (own ++ l4 ++ (ex7 ++ r7))) I7 F12 N12 X T (Nat.le_of_ble_eq_true rfl) (Nat.le_of_ble_eq_true rfl) hh off11 ?_
    intro h13 tk13 t13 F13 N13
    rw [e71]
    k_steps
    refine (room_spec (sz := sz) (r := (d10, listOf ys10.toArray n10) :: (d9, listOf ys9.toArray n9) :: (nb, listOf ws.toArray 0) :: (L + 1 + 1, ocs) :: (L + 1, ocn) :: (own ++ l4 ++ (ex7 ++ r7))) (hD7.mono fun q hq => .tail _ (.tail _ (.tail _ (.tail _ (.tail _ (List.mem_append_left _ (List.mem_append_right _ hq))))))) (by omega)).use2 (l₀ := CL.led ⟨x, dx, ad, az, ai, ak, al⟩ ⟨es3, n3, oD3, oZ3, oI3, vs3, nk3, us3, ns3⟩) F13 N13 X T (Nat.le_of_ble_eq_true rfl) (Nat.le_of_ble_eq_true rfl) hh ?_
    intro h14 tk14 v14 l14 hPq hs14 F14 N14 new14 k14
    obtain ⟨t14, rfl⟩ := hPq
    k_steps
    · exact ((by assumption : (roomOf sz st7.pairs) ≠ roomOf sz st7.pairs) rfl).elim
    have hfresh13 := adr_some (c := ⟨x, dx, ad, az, ai, ak, al⟩) (o := ⟨es3, n3, oD3, oZ3, oI3, vs3, nk3, us3, ns3⟩) (fun q hq => N13 q (List.mem_append_left _ hq))
    have off14 : ∀ q ∈ l14, q.1 ∉ CL.adr ⟨x, dx, ad, az, ai, ak, al⟩ := fun q hq hc => by
      rcases new14 q hq with z | z
      · obtain ⟨p, hp, e⟩ := List.mem_map.mp z
        exact off11 p hp (e ▸ hc)
      · exact hfresh13 q.1 hc z
    refine get_currsize (c := ⟨x, dx, ad, az, ai, ak, al⟩) (o := ⟨es3, n3, oD3, oZ3, oI3, vs3, nk3, us3, ns3⟩) (r := l14) I7 F14 N14 X T (Nat.le_of_ble_eq_true rfl) (Nat.le_of_ble_eq_true rfl) hh off14 ?_
    intro h15 tk15 t15 F15 N15
    rw [e71]
    k_steps
    refine get_maxsize (c := ⟨x, dx, ad, az, ai, ak, al⟩) (o := ⟨es3, n3, oD3, oZ3, oI3, vs3, nk3, us3, ns3⟩) (r := l14) I7 F15 N15 X T (Nat.le_of_ble_eq_true rfl) (Nat.le_of_ble_eq_true rfl) hh off14 ?_
    intro h16 tk16 t16 F16 N16
    rw [e72]
    k_steps
    · exact ((by assumption : room ≠ room) rfl).elim
    have F17 := fr_cong F16 lawM_turn
    have sub7 : ∀ q ∈ l4 ++ (ex7 ++ r7), q ∈ l14 := fun q hq => hs14 q (.tail _ (.tail _ (.tail _ (.tail _ (.tail _ (by
      rcases List.mem_append.mp hq with z | z
      · exact List.mem_append_left _ (List.mem_append_right _ z)
      · exact List.mem_append_right _ z))))))
    have off17 : ∀ q ∈ l4 ++ (ex7 ++ r7), q.1 ∉ CL.adr ⟨x, dx, ad, az, ai, ak, al⟩ := fun q hq => off9 q (.tail _ (.tail _ (.tail _ (by
      rcases List.mem_append.mp hq with z | z
      · exact List.mem_append_left _ (List.mem_append_right _ z)
      · exact List.mem_append_right _ z))))
    have low4 : ∀ q ∈ lx, q ∈ l4 := fun q hq => hs4 q (.tail _ (.tail _ (.tail _ hq)))
    refine InvEndG.intro (nx := CL.led ⟨x, dx, ad, az, ai, ak, al⟩ ⟨es3, n3, oD3, oZ3, oI3, vs3, nk3, us3, ns3⟩ ++ (l4 ++ (ex7 ++ r7))) F17 N16 ⟨?m1, _, _, _, _, _, _, _, ⟨es3, n3, oD3, oZ3, oI3, vs3, nk3, us3, ns3⟩, st7, shown ++ sh7, sr ++ r7, l4 ++ (ex7 ++ r7), rfl, rfl, ?m2⟩ ?m3 ?m4 ?m5
    case m1 =>
      refine List.mem_append_right _ (List.mem_append_left _ (low4 _ ?_))
      rcases List.mem_append.mp hml with z | z
      · exact (hsl (List.mem_map_of_mem (f := (·.1)) z)).elim
      · exact z
    case m2 =>
      refine ⟨fun q hq => List.mem_append_left _ (stat4 q hq), off17, I7, e71, e72, z3.trans J.e3, W7, P7, hus7, S8, fun q hq => ?_, hD7.mono fun q hq => List.mem_append_left _ hq, hD8.mono fun q hq => List.mem_append_left _ hq, ?_⟩
      · rcases List.mem_append.mp hq with z | z
        · exact List.mem_append_left _ (low4 q (J.srx q z))
        · exact List.mem_append_right _ (List.mem_append_right _ z)
      · have := J.len; omega
    case m3 =>
      intro p hp b hb
      rw [List.map_append] at hb
      rcases List.mem_append.mp hb with z | z
      · exact fun e => hofl5 p (List.mem_append_left _ hp) (e ▸ z)
      · obtain ⟨q, hq, rfl⟩ := List.mem_map.mp z
        rcases List.mem_append.mp hq with z | z
        · exact own4 q z p hp
        · have w : _ := hown6 p hp
          intro e
          rcases List.mem_append.mp z with z | z
          · rw [e] at w
            exact absurd (w.symm.trans (hex7 q z).1) (fun h => nomatch h)
          · rw [e] at w
            exact absurd (w.symm.trans (hr7 q z).1) (fun h => nomatch h)
    case m4 =>
      intro q hq
      rcases List.mem_append.mp hq with z | z
      · exact List.mem_append_left _ z
      · exact List.mem_append_right _ (sub7 q z)
    case m5 => exact fun q hq => List.mem_append_right _ (hs14 q (.tail _ (.tail _ (.tail _ (.tail _ (.tail _ (List.mem_append_left _ (List.mem_append_left _ hq))))))))
end
section
theorem law_start {w : World} {base : Heap} {L fa a nb al lp lsh x dx ad az ai ak f c' : Addr} {s : Shared} {p : Program} {loose : List Str} {mean : ExcName → Option Value} {mg mb : Str → Option Value} {ocn ocs oc oD oZ oI : Obj} {pt : Array Value} {es : List DictEntry} {n : Nat} {cvs : Array Value} {t : Tok} {doc pm ctv : Value} {ws : List Value} {nums : List Int} {room : Int} {tr : Tok} {sz : Bool} {Q : Flow → Shared → Prop} {E : Value → Shared → Prop}
    (B : Below callerA base [] base) (F : Fr base L s.heap (fun y => if y = Str.ofString "shown" then some (.ref lsh) else if y = Str.ofString "pairs" then some (.ref lp) else if y = Str.ofString "cache" then some (.ref x) else if y = Str.ofString "_law_choose" then some (.ref f) else if y = Str.ofString "sized" then some (.bool sz) else if y = Str.ofString "room" then some (.int room tr) else if y = Str.ofString "script" then some (.ref a) else none))
    (X : (KK w.params).In base) (T : Top p loose mean mg mb base)
    (N : News base L s.heap [(x, instObj 225 dx), (dx, dictOf es n), (ad, oD), (az, oZ), (ai, oI), (ak, listOf [].toArray 0), (al, listOf [].toArray 0), (lsh, listOf [].toArray 0), (lp, listOf [].toArray 0), (nb, listOf ws.toArray 0), (L + 1 + 1, ocs), (L + 1, ocn), (f, chObj [(Str.ofString "seen", L + 1 + 1), (Str.ofString "numbers", L + 1)] doc pm c' ctv), (c', oc), (277, tabObj pt)])
    (nd : [x, dx, ad, az, ai, ak, al].Nodup) (off : ∀ a ∈ [lsh, lp, nb, L + 1 + 1, L + 1, f, c', 277], a ∉ [x, dx, ad, az, ai, ak, al])
    (ds : ocs.data = .cell (some (.ref al))) (dn : ocn.data = .cell (some (.ref nb))) (hi : IntsAre ws nums) (h5 : 5 ≤ nums.length) (h39 : nums.length ≤ 39) (hr0 : 0 ≤ room)
    (d3 : oc.data = .fields cvs) (d4 : cvs[1]? = some (.str "law.<locals>._law_choose" t)) (od : OD ⟨x, dx, ad, az, ai, ak, al⟩ ⟨sz, room, f, [], [], []⟩ es) (DD : DI w oD []) (DZ : sz = true → DI w oZ []) (DX : DI w oI [])
    (lo1 : (ad == sysModules) = false) (lo2 : (az == sysModules) = false) (lo3 : (ai == sysModules) = false)
    (hQ : ∀ h' tk m' news' ps, Fr base L h' m' → News base L h' news' → (277, tabObj ps) ∈ news' → Q (.ret (.bool true)) { s with heap := h', toks := tk }) :
    wpAny (model PG w) (callerA.deeper (envOfC "law" (scopeS lawSt) L fa (.ref 279))) (exec (nthS (bodyS lawSt) 8) (envOfC "law" (scopeS lawSt) L fa (.ref 279))) (LoopQ w (callerA.deeper (envOfC "law" (scopeS lawSt) L fa (.ref 279))) ((bodyS lawSt).drop 9) (envOfC "law" (scopeS lawSt) L fa (.ref 279)) Q E) E s := by
  have I : CI w ⟨x, dx, ad, az, ai, ak, al⟩ ⟨es, n, oD, oZ, oI, [], 0, [], 0⟩ ⟨sz, room, f, [], [], []⟩ := ⟨nd, od, DD, DZ, DX, .nil, lo1, lo2, lo3⟩
  have hnn : nums ≠ [] := fun e => by rw [e] at h5; exact absurd h5 (by decide)
  have N2 : News base L s.heap (CL.led ⟨x, dx, ad, az, ai, ak, al⟩ ⟨es, n, oD, oZ, oI, [], 0, [], 0⟩ ++ (lsh, listOf [].toArray 0) :: (lp, listOf [].toArray 0) :: (nb, listOf ws.toArray 0) :: (L + 1 + 1, ocs) :: (L + 1, ocn) :: [(f, chObj [(Str.ofString "seen", L + 1 + 1), (Str.ofString "numbers", L + 1)] doc pm c' ctv), (c', oc), (277, tabObj pt)]) := N
  have off2 : ∀ a ∈ [f, c', L + 1, L + 1 + 1, nb], a ∉ CL.adr ⟨x, dx, ad, az, ai, ak, al⟩ := fun a ha => off a (by
    simp only [List.mem_cons, List.not_mem_nil, or_false] at *
    rcases ha with h | h | h | h | h <;> simp [h])
  have H := choose_ch (c := ⟨x, dx, ad, az, ai, ak, al⟩) (fch := f) (cn := L + 1) (cs := L + 1 + 1) (nb := nb) (c' := c') (doc := doc) (pm := pm) (ctv := ctv) (vq := ws) (nq := 0) X T dn ds hi hnn (Nat.le_trans h39 (by decide)) off2 (freshN N2)
  refine law_loop (c := ⟨x, dx, ad, az, ai, ak, al⟩) (o := ⟨es, n, oD, oZ, oI, [], 0, [], 0⟩) B F X T N2 (fun q hq => off q.1 ?_) ds dn hi h5 h39 hr0 I rfl H (fun h m l F1 N1 hs => ⟨fun b o e => F1.keep b o e, (N1 (f, _) (hs _ (.tail _ (.tail _ (.tail _ (.head _)))))).1, ⟨oc, cvs, t, (N1 (c', oc) (hs _ (.tail _ (.tail _ (.tail _ (.tail _ (.head _))))))).1, d3, d4⟩, fun q hq => (N1 q (hs q ?_)).1⟩) (.tail _ (.tail _ (.head _))) hQ
  · simp only [List.mem_cons, List.not_mem_nil, or_false] at *
    rcases hq with h | h | h | h | h | h | h | h <;> simp [h]
  · simp only [List.mem_cons, List.not_mem_nil, or_false] at *
    rcases hq with h | h | h <;> simp [h]
end
section
section
local macro_rules | `(tactic| walk_at "mine nothing") => `(tactic| fail "nothing")
local macro_rules | `(tactic| walk_at "getAttr ref") => `(tactic| (k_here; (with_reducible show wpAny _ _ (getAttr (Value.ref _) (Str.ofString "getsizeof") _) _ _ _); first
  | (refine' get_smI ?k1 ?k2 ?k3 ?k4 ?k5 ?k6 ?k7 ?k8 ?k9 ?k10 ?k11 ?k12 ?_; (case k1 => k_asm); (case k2 => k_asm); (case k3 => k_inst); (case k4 => k_is); (case k5 => k_is); (case k6 => k_is); (case k7 => k_is); (case k8 => k_is); (case k9 => decide); (case k10 => exact rfl); (case k11 => k_is); (case k12 => k_handed); k_whole)
  | (refine' get_ownS ?k1 ?k2 ?k3 ?k4 ?k5 ?k6 ?k7 ?k8 ?k9 ?k10 ?_; (case k1 => k_asm); (case k2 => k_asm); (case k3 => k_inst); (case k4 => k_is); (case k5 => k_is); (case k6 => k_is); (case k7 => k_is); (case k8 => k_is); (case k9 => exact rfl); (case k10 => k_handed); k_whole)))
theorem law_rest2 {w : World} {base : Heap} {L fa a nb al jk : Addr} {s : Shared} {p : Program} {loose : List Str} {mean : ExcName → Option Value} {mg mb : Str → Option Value} {ocn ocs oj : Obj} {ws : List Value} {nums : List Int} {room : Int} {tr : Tok} {sz : Bool} {Q : Flow → Shared → Prop} {E : Value → Shared → Prop}
    (B : Below callerA base [] base) (F : Fr base L s.heap (fun y => if y = Str.ofString "sized" then some (.bool sz) else if y = Str.ofString "room" then some (.int room tr) else if y = Str.ofString "script" then some (.ref a) else none)) (X : (KK w.params).In base) (T : Top p loose mean mg mb base)
    (N : News base L s.heap [(al, listOf [].toArray 0), (nb, listOf ws.toArray 0), (L + 1 + 1, ocs), (L + 1, ocn), (277, tabObj #[]), (jk, oj)]) (C : CodeHd base 279 277)
    (ds : ocs.data = .cell (some (.ref al))) (dn : ocn.data = .cell (some (.ref nb))) (hi : IntsAre ws nums) (h5 : 5 ≤ nums.length) (h39 : nums.length ≤ 39) (hj : L + 1 + 1 < jk) (hnb : jk < nb) (hal : nb < al) (h277 : 277 < L) (hr0 : 0 ≤ room)
    (hQ : ∀ h' tk m' news' ps, Fr base L h' m' → News base L h' news' → (277, tabObj ps) ∈ news' → Q (.ret (.bool true)) { s with heap := h', toks := tk }) :
    wpAny (model PG w) (callerA.deeper (envOfC "law" (scopeS lawSt) L fa (.ref 279))) (exec (nthS (bodyS lawSt) 4) (envOfC "law" (scopeS lawSt) L fa (.ref 279))) (LoopQ w (callerA.deeper (envOfC "law" (scopeS lawSt) L fa (.ref 279))) ((bodyS lawSt).drop 5) (envOfC "law" (scopeS lawSt) L fa (.ref 279)) Q E) E s := by
  have hh : (callerA.deeper (envOfC "law" (scopeS lawSt) L fa (.ref 279))).handled = none := rfl
  have e1 : nthS (bodyS lawSt) 4 = nthS (bodyS lawSt) 4 := rfl
  conv at e1 => rhs; whnf
  rw [e1]
  clear e1
  have w1 : 277 < L + 1 := Nat.lt_succ_of_lt h277
  have w2 : 277 < L + 1 + 1 := Nat.lt_succ_of_lt w1
  have w5 : 277 < jk := Nat.lt_trans w2 hj
  have w3 : 277 < nb := Nat.lt_trans w5 hnb
  have w4 : 277 < al := Nat.lt_trans w3 hal
  have v1 : al ≠ 277 := Nat.ne_of_gt w4
  have v2 : nb ≠ 277 := Nat.ne_of_gt w3
  have v3 : L + 1 + 1 ≠ 277 := Nat.ne_of_gt w2
  have v4 : L + 1 ≠ 277 := Nat.ne_of_gt w1
  refine' nestDef_K (by exact rfl) (by exact rfl) (by exact rfl) ?_
  refine' nest_K F N T C (by exact rfl) (.tail v1 (.tail v2 (.tail v3 (.tail v4 (.head (fun q hq => by rw [List.mem_singleton.mp hq]; exact Nat.ne_of_gt w5)))))) True.intro (by exact rfl) (by exact rfl) ?_
  intro f c' oc cvs t ctv doc h1 tk1 F1 N1 d3 d4 l1 l2
  dsimp only at N1
  have hq : qualnameIn (envOfC "law" (scopeS lawSt) L fa (.ref 279)) "_law_choose" "_law_choose" = "law.<locals>._law_choose" := by kernel_rfl
  rw [hq] at N1 d4
  have N2 := clN N1 (f := f) (of' := chObj [(Str.ofString "seen", L + 1 + 1), (Str.ofString "numbers", L + 1)] doc ((mg "__name__").getD .none) c' ctv) (by exact rfl)
  obtain ⟨pt, N3⟩ := N2
  clear N1
  try dsimp only
  walk1
  unfold LoopQ
  try dsimp only
  have e5 : (bodyS lawSt).drop 5 = (bodyS lawSt).drop 5 := rfl
  conv at e5 => rhs; whnf
  rw [e5]
  clear e5
  cases sz
  ·
    k_steps
    walk1
    k_steps
    walk1
    k_steps
    rename Fr base _ _ _ => kF
    rename News base _ _ _ => kN
    rename (_ : Addr) < _ => kx
    rename _ < _ ∧ _ < _ ∧ _ => q8
    have k8 := q8.1
    clear q8
    rename _ < _ ∧ _ < _ ∧ _ => q7
    have k7 := q7.1
    clear q7
    rename _ < _ ∧ _ < _ ∧ _ => q6
    have k6 := q6.1
    clear q6
    rename _ < _ ∧ _ < _ ∧ _ => q5
    have k5 := q5.1
    clear q5
    rename _ < _ ∧ _ < _ ∧ _ => q4
    have k4 := q4.1
    clear q4
    rename _ < _ ∧ _ < _ ∧ _ => q3
    have k3 := q3.1
    clear q3
    rename (_ == sysModules) = false => loI
    rename Obj.IsDictOf (intKind PG w) _ [] => hiI
    have DI1 : DI w _ [] := ⟨[], hiI, .nil⟩
    have loI2 := And.intro loI trivial
    clear loI hiI
    rename (_ == sysModules) = false => loD
    rename Obj.IsDictOf (intKind PG w) _ [] => hiD
    have DD1 : DI w _ [] := ⟨[], hiD, .nil⟩
    have loD2 := And.intro loD trivial
    clear loD hiD
    obtain ⟨nd, off⟩ := chainU h277 hj hnb hal (l1 _ (.head _)) l2 k3 kx k4 k5 k6 k7 k8
    have kN2 := newsSub kN reordU
    refine wpAny_mono (Q := LoopQ w _ ((bodyS lawSt).drop 9) _ Q E) ?_ (fun fl s' h => by cases fl <;> exact h) (fun _ _ h => h)
    refine' law_start B ?kf1 X T ?kn1 nd off ds dn hi h5 h39 hr0 d3 d4 ?od1 DD1 ?dz1 DI1 loD2.1 (sysM w5) loI2.1 ?hq1
    case kf1 => exact kF
    case kn1 => exact kN2
    case hq1 => exact fun h' tk m' news' => hQ h' tk m' news'
    case dz1 => exact fun h => nomatch h
    case od1 => exact ⟨rfl, rfl, rfl, ⟨_, rfl⟩, ⟨_, rfl⟩, rfl, rfl, rfl, rfl, rfl, rfl, rfl, rfl, rfl, rfl, Nat.le_of_ble_eq_true rfl⟩
  ·
    k_steps
    walk1
    k_steps
    walk1
    k_steps
    rename Fr base _ _ _ => kF
    rename News base _ _ _ => kN
    rename (_ : Addr) < _ => kx
    rename _ < _ ∧ _ < _ ∧ _ => q8
    have k8 := q8.1
    clear q8
    rename _ < _ ∧ _ < _ ∧ _ => q7
    have k7 := q7.1
    clear q7
    rename _ < _ ∧ _ < _ ∧ _ => q6
    have k6 := q6.1
    clear q6
    rename _ < _ ∧ _ < _ ∧ _ => q5
    have k5 := q5.1
    clear q5
    rename _ < _ ∧ _ < _ ∧ _ => q4
    have k4 := q4.1
    clear q4
    rename _ < _ ∧ _ < _ ∧ _ => q9
    have k9 := q9.1
    clear q9
    rename _ < _ ∧ _ < _ ∧ _ => q3
    have k3 := q3.1
    clear q3
    rename (_ == sysModules) = false => loI
    rename Obj.IsDictOf (intKind PG w) _ [] => hiI
    have DI1 : DI w _ [] := ⟨[], hiI, .nil⟩
    have loI2 := And.intro loI trivial
    clear loI hiI
    rename (_ == sysModules) = false => loD
    rename Obj.IsDictOf (intKind PG w) _ [] => hiD
    have DD1 : DI w _ [] := ⟨[], hiD, .nil⟩
    have loD2 := And.intro loD trivial
    clear loD hiD
    rename (_ == sysModules) = false => loZ
    rename Obj.IsDictOf (intKind PG w) _ [] => hiZ
    have DZ1 : DI w _ [] := ⟨[], hiZ, .nil⟩
    have loZ2 := And.intro loZ trivial
    clear loZ hiZ
    obtain ⟨nd, off⟩ := chainZ h277 hj hnb hal (l1 _ (.head _)) l2 k3 kx k9 k4 k5 k6 k7 k8
    have kN2 := newsSub kN reordZ
    refine wpAny_mono (Q := LoopQ w _ ((bodyS lawSt).drop 9) _ Q E) ?_ (fun fl s' h => by cases fl <;> exact h) (fun _ _ h => h)
    refine' law_start B ?kf2 X T ?kn2 nd off ds dn hi h5 h39 hr0 d3 d4 ?od2 DD1 (fun _ => DZ1) DI1 loD2.1 loZ2.1 loI2.1 ?hq2
    case kf2 => exact kF
    case kn2 => exact kN2
    case hq2 => exact fun h' tk m' news' => hQ h' tk m' news'
    case od2 => exact ⟨rfl, rfl, rfl, ⟨_, rfl⟩, ⟨_, rfl⟩, rfl, rfl, rfl, rfl, rfl, rfl, rfl, rfl, rfl, rfl, Nat.le_of_ble_eq_true rfl⟩
end
end
section
theorem law_rest1 {w : World} {base : Heap} {L fa a nb jk : Addr} {s : Shared} {p : Program} {loose : List Str} {mean : ExcName → Option Value} {mg mb : Str → Option Value} {oc1 oc2 oj : Obj} {ws : List Value} {nums : List Int} {Q : Flow → Shared → Prop} {E : Value → Shared → Prop}
    (B : Below callerA base [] base) (F : Fr base L s.heap (fun y => if y = Str.ofString "script" then some (.ref a) else none)) (X : (KK w.params).In base) (T : Top p loose mean mg mb base) (N : News base L s.heap [(nb, listOf ws.toArray 0), (L + 1 + 1, oc1), (L + 1, oc2), (277, tabObj #[]), (jk, oj)]) (C : CodeHd base 279 277)
    (d1 : oc1.data = .cell none) (d2 : oc2.data = .cell (some (.ref nb))) (hi : IntsAre ws nums) (h5 : 5 ≤ nums.length) (h39 : nums.length ≤ 39) (hj : L + 1 + 1 < jk) (hnb : jk < nb) (h277 : 277 < L)
    (hQ : ∀ h' tk m' news' ps, Fr base L h' m' → News base L h' news' → (277, tabObj ps) ∈ news' → Q (.ret (.bool true)) { s with heap := h', toks := tk }) :
    wpAny (model PG w) (callerA.deeper (envOfC "law" (scopeS lawSt) L fa (.ref 279))) (execs ((bodyS lawSt).drop 1) (envOfC "law" (scopeS lawSt) L fa (.ref 279))) Q E s := by
  have hh : (callerA.deeper (envOfC "law" (scopeS lawSt) L fa (.ref 279))).handled = none := rfl
  have e1 : (bodyS lawSt).drop 1 = (bodyS lawSt).drop 1 := rfl
  conv at e1 => rhs; whnf
  rw [e1]
  clear e1
  have z0 : (0 : Int) < nums.length := by omega
  have z1 : nums.length ≤ 1000 := by omega
  k_steps
  rename Fr base _ _ _ => kF
  rename News base _ _ _ => kN
  rename _ < _ ∧ _ < _ ∧ _ => q1
  have hr0 : 0 ≤ (nums.getD 0 0).fmod 6 := Int.fmod_nonneg_of_pos _ (by decide)
  have b1 : jk ≠ L + 1 + 1 := Nat.ne_of_gt hj
  have b2 : nb ≠ L + 1 + 1 := Nat.ne_of_gt (Nat.lt_trans hj hnb)
  have b3 : L + 1 ≠ L + 1 + 1 := Nat.ne_of_lt (Nat.lt_succ_self _)
  have b4 : 277 ≠ L + 1 + 1 := Nat.ne_of_lt (Nat.lt_succ_of_lt (Nat.lt_succ_of_lt h277))
  refine storeX_C (cl := cellsFrom (L + 1) (scopeS lawSt).names []) (c := L + 1 + 1) (o := oc1) kF kN (by exact rfl) (.tail (Nat.ne_of_gt q1.2.1) (.tail b2 (.head fun q hq => ?_))) d1 ?_
  · simp only [List.mem_cons, List.not_mem_nil, or_false] at hq
    rcases hq with rfl | rfl | rfl
    · exact b3
    · exact b4
    · exact b1
  intro h2 o2 F2 N2 ds
  try dsimp only at N2
  try dsimp only
  iterate 2 walk1
  refine wpAny_mono (Q := LoopQ w _ ((bodyS lawSt).drop 5) _ Q E) ?_ (fun fl s' h => by cases fl <;> exact h) (fun _ _ h => h)
  refine' law_rest2 B ?kf1 X T ?kn1 C ds d2 hi h5 h39 hj hnb q1.1 h277 hr0 ?hq1
  case kf1 => exact F2
  case kn1 => exact N2
  case hq1 => exact fun h' tk m' news' => hQ h' tk m' news'
end
section
theorem law_walk {w : World} {base : Heap} {L fa a : Addr} {s : Shared} {p : Program} {loose : List Str} {mean : ExcName → Option Value} {mg mb : Str → Option Value} {oc1 oc2 : Obj} {vs : List Value} {ns : List Int} {Q : Flow → Shared → Prop} {E : Value → Shared → Prop}
    (B : Below callerA base [] base) (F : Fr base L s.heap (fun y => if y = Str.ofString "script" then some (.ref a) else none)) (X : (KK w.params).In base) (T : Top p loose mean mg mb base) (N : News base L s.heap [(L + 1 + 1, oc1), (L + 1, oc2), (277, tabObj #[])]) (C : CodeHd base 279 277)
    (d1 : oc1.data = .cell none) (d2 : oc2.data = .cell none) (hl : base.IsList a vs.toArray) (hi : IntsAre vs ns) (h63 : ns.length ≤ 63) (h277 : 277 < L)
    (hQ : ∀ h' tk m' news' ps, Fr base L h' m' → News base L h' news' → (277, tabObj ps) ∈ news' → Q (.ret (.bool true)) { s with heap := h', toks := tk }) :
    wpAny (model PG w) (callerA.deeper (envOfC "law" (scopeS lawSt) L fa (.ref 279))) (execs (bodyS lawSt) (envOfC "law" (scopeS lawSt) L fa (.ref 279))) Q E s := by
  have hh : (callerA.deeper (envOfC "law" (scopeS lawSt) L fa (.ref 279))).handled = none := rfl
  have e1 : bodyS lawSt = bodyS lawSt := rfl
  conv at e1 => rhs; whnf
  rw [e1]
  clear e1
  iterate 3 (first | (dsimp only; walk1) | walk1)
  refine LCg.ListComp_U (F₀ := F) (by with_unfolding_all rfl) (by decide) (by rfl) (by decide) (by rfl) ?_
  k_steps
  rename Fr base _ _ _ => kF
  rename News base _ _ _ => kN
  rename IntsAre _ _ => hnum
  rename _ < _ ∧ _ < _ ∧ _ => q1
  have j1 := q1.1
  clear q1
  rename _ < _ ∧ _ < _ ∧ _ => q2
  have j2 := q2.2.2.1
  clear q2
  have kN2 := newsSub kN reordN
  have b1 := Nat.ne_of_gt (Nat.lt_trans (Nat.lt_trans (Nat.lt_succ_self (L + 1)) j2) j1)
  have b2 := Nat.ne_of_gt (Nat.lt_trans (Nat.lt_succ_self (L + 1)) j2)
  refine storeX_C (cl := cellsFrom (L + 1) (scopeS lawSt).names []) (c := L + 1) (o := oc2) kF kN2 (by exact rfl) (.tail b1 (.tail (Nat.ne_of_gt (Nat.lt_succ_self (L + 1))) (.head fun q hq => ?_))) d2 ?_
  · simp only [List.mem_cons, List.not_mem_nil, or_false] at hq
    rcases hq with rfl | rfl
    · exact Nat.ne_of_lt (Nat.lt_succ_of_lt h277)
    · exact b2
  intro h2 o2 F2 N2 ds
  try dsimp only at N2
  try dsimp only
  have h5 : 5 ≤ (List.map (fun k' : Int => k'.fmod 1000000007) (List.take 34 ns) ++ [163, 50, 114, 202, 311]).length := by rw [List.length_append]; exact Nat.le_add_left _ _
  have h39 : (List.map (fun k' : Int => k'.fmod 1000000007) (List.take 34 ns) ++ [163, 50, 114, 202, 311]).length ≤ 39 := by
    rw [List.length_append, List.length_map, List.length_take]
    exact Nat.add_le_add_right (Nat.min_le_left _ _) 5
  refine' law_rest1 B ?kf1 X T ?kn1 C d1 ds hnum h5 h39 j2 j1 h277 ?hq1
  case kf1 => exact F2
  case kn1 => exact N2
  case hq1 => exact fun h' tk m' news' => hQ h' tk m' news'
end
section
theorem law_holds : PySem.Challenge.rw_jx0005_01.Holds := by
  w_on; refine holds_law said_ fun said => ?_
  refine holds_open (q := qv) (loose := ["Cache", "RRCache"]) (Xt := fun s => xlAt qv [] s && recOk (RowW.records PySem.Challenge.rw_jx0005_01.row.toRowW) s) (XP := XL qv []) (Yf := Hook.obs (kmHook KK KA hKA [277])) (Ya := Hook.val (kmHook KK KA hKA [277])) (YP := Hook.says (kmHook KK KA hKA [277])) (N := 4238) ?hl (Hook.of (kmHook KK KA hKA [277])) (Hook.keeps (kmHook KK KA hKA [277])) (fun s e => xl_of s (Bool.and_eq_true_iff.mp e).1) XL.keeps (by rfl) (by rfl) (by rfl) (fun s e => recFacts_of (Bool.and_eq_true_iff.mp e).2) (by rfl) (by first | assumption | decide +kernel) (by decide +kernel) ⟨rfl, rfl, rfl, rfl, rfl, by decide +kernel⟩ ?hw ?hc
  case hl => exact left_
  case hw => w_witness2
  k_fill
  intro w s₀ s₁ mg mb G Y fa o pm cd doc dV kV ho hd hcd hD hmg hg args vals as hpre hlay hrd hwl hlo
  have KX := km_in_of Y
  km_tabs Y
  have X := (Ground.X G).1
  have V := (Ground.X G).2
  refine Ground.open G ?_
  intro T B D TE TW
  try (refine guard_noD D (by decide +kernel) ?_; clear D)
  km_lay T hmg ho hd cd
  clear hmg
  wrow_args hpre hlay hrd hwl hlo
  all_goals (
    first | refine callC_kw (enter_call ?_) | refine enter_call ?_
    w_top on
    kn_posts
    w_call any ho hd hcd hD T F
    clear hd
    kn_ghosts F T
    k_drop
    skip)
  rename Fr (ghostOf _ _) _ _ _ => kF
  rename News (ghostOf _ _) _ _ _ => kN
  rename Below _ (ghostOf _ _) _ _ => kB
  rename Frag.In _ (ghostOf _ _) => kX
  rename Top topProg _ _ _ _ (ghostOf _ _) => kT
  rename IntsAre _ _ => kI
  rename Heap.IsList (ghostOf _ _) _ _ => kL
  rename 277 < _ => k277
  rename ¬ _ < ((List.length _ : Nat) : Int) => k63
  refine' law_walk (base := ghostOf s₁.heap [(279, 277)]) kB ?kf kX kT ?kn codeHd ?d1 ?d2 kL kI (by omega) k277 ?hq
  case kn => exact kN
  case kf => exact fr_cong kF (fun y => by with_unfolding_all rfl)
  case d1 => exact Eq.trans (by assumption) (congrArg Data.cell (by with_unfolding_all rfl))
  case d2 => exact Eq.trans (by assumption) (congrArg Data.cell (by with_unfolding_all rfl))
  case hq =>
    intro h' tk m' news' ps F9 N9 hm9
    refine ⟨?_, ⟨⟨ps, (N9 _ hm9).1⟩, trivial⟩⟩
    dsimp only
    first | (k_end; kc_close) | (k_end; wrow_close)
end
end Mine
theorem PySem.Challenge.cw_jx0005_01_holds : PySem.Challenge.rw_jx0005_01.Holds :=
  Mine.law_holds
