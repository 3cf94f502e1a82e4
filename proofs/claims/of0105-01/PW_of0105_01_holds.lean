import PyProof.Rows.All
import Wide.All
import OpenK.AllK
import Wide.FinOn
import KE.KWords
import Lean
import PySem.Challenge.RW_of0105_01
open PySem PySem.W PyProof.Rows
set_option Elab.async false
local macro_rules | `(tactic| k_all) => `(tactic| assumption)
local macro_rules | `(tactic| walk_at $s:str) => `(tactic| k_extra $s)

-- A0
section
namespace Mine

/-! An own head in place of open_top: the top's whole run on trees as one check (the kit's head lays twins' equations of 250 MB for this row). -/
def topRunT (tb : String → Option Builtin) (p : Program) (w : World) (n₀ : Nat) (ann : Option Value) : Nat → SharedT → Thread → Option SharedT
  | 0, _, _ => none
  | n + 1, s, t => match through t with
    | true => some s
    | false => match stepOk n₀ ann t with
      | false => none
      | true => match stepT (denote tb) p w s t with
        | some (s', t') => topRunT tb p w n₀ ann n s' t'
        | none => none
theorem topRunT_of {tb : String → Option Builtin} {p : Program} {w : World} {n₀ : Nat} {ann : Option Value} : ∀ {n : Nat} {s s' : SharedT} {t : Thread},
    topRunT tb p w n₀ ann n s t = some s' → topRun tb p w n₀ ann n s.abs t = some s'.abs
  | 0, _, _, _, h => by cases h
  | n + 1, s, s', t, h => by
    unfold topRunT at h
    unfold topRun
    cases ht : through t with
    | true => rw [ht] at h; cases h; rfl
    | false =>
      rw [ht] at h
      cases hk : stepOk n₀ ann t with
      | false => rw [hk] at h; cases h
      | true =>
        rw [hk] at h
        cases hs : stepT (denote tb) p w s t with
        | none => rw [hs] at h; cases h
        | some r => obtain ⟨s₂, t₂⟩ := r; rw [hs] at h; dsimp only; rw [stepT_spec hs]; exact topRunT_of h
def layT : List Obj → BT → Nat → Option BT
  | [], t, _ => some t
  | o :: r, t, n => match ((t.ins n o).get n).isSome with
    | true => layT r (t.ins n o) (n + 1)
    | false => none
theorem layT_of {life : Life} : ∀ {l : List Obj} {t t' : BT} {n : Nat}, layT l t n = some t' → absHeap t' (n + l.length) life = l.foldl Heap.push (absHeap t n life)
  | [], t, t', n, h => by cases h; rfl
  | o :: r, t, t', n, h => by
    unfold layT at h
    cases hs : ((t.ins n o).get n).isSome with
    | false => rw [hs] at h; cases h
    | true =>
      rw [hs] at h
      have ih := layT_of (life := life) h
      rw [List.length_cons, show n + (r.length + 1) = n + 1 + r.length by omega, ih, absHeap_ins hs]
      rfl
theorem push_all : ∀ (l : List Obj) (x : Array Obj) (life : Life), l.foldl Heap.push ⟨x, life⟩ = ⟨x ++ l.toArray, life⟩
  | [], x, life => by simp
  | o :: r, x, life => by
    show r.foldl Heap.push ⟨x.push o, life⟩ = _
    rw [push_all r]
    congr 1
    apply Array.ext'
    simp
theorem layT_all {h : Heap} {t : BT} (e : layT h.objs.toList .nil 0 = some t) : absHeap t h.objs.size h.life = h := by
  have := layT_of (life := h.life) e
  rw [Nat.zero_add, show absHeap .nil 0 h.life = ⟨#[], h.life⟩ from rfl, push_all] at this
  obtain ⟨x, l⟩ := h
  simpa using this
def seenAll (p q : Program) (loose : List Str) (Xt : Shared → Bool) (N : Nat) (w : World) :=
  (fencedOpening treeTable p w N).bind fun s₀ => match s₀.heap.isNs mainGlobals && s₀.gens.size == 0 with
    | true => (layT s₀.heap.objs.toList .nil 0).bind fun t =>
      (topRunT treeTable p w s₀.heap.objs.size (s₀.heap.nsMap mainGlobals "__annotations__") N ⟨t, s₀.heap.objs.size, s₀.heap.life, s₀.gens, s₀.drawn, s₀.toks, s₀.os⟩ (topStub p)).map fun S =>
        (staticsOk (importedModules p.main.body) s₀.heap S.abs.heap && namesBound p S.abs.heap && gensDone S.abs && laidKept s₀.heap S.abs.heap,
          openSeen q loose (importedModules p.main.body) Xt true S.abs)
    | false => none
def goodAll (q : Program) (loose : List Str) := some (true, openGood q loose)
def getT (S : SharedT) (a : Nat) : Option Obj := match Nat.blt a S.n with
  | true => match S.tree.get a with
    | some o => alive o
    | none => none
  | false => none
def readAll (p : Program) (as : List Nat) (N : Nat) (w : World) :=
  (fencedOpening treeTable p w N).bind fun s₀ => (layT s₀.heap.objs.toList .nil 0).bind fun t =>
      (topRunT treeTable p w s₀.heap.objs.size (s₀.heap.nsMap mainGlobals "__annotations__") N ⟨t, s₀.heap.objs.size, s₀.heap.life, s₀.gens, s₀.drawn, s₀.toks, s₀.os⟩ (topStub p)).map fun S => as.map (getT S)
theorem getT_of {S : SharedT} {a : Nat} {o : Obj} (h : getT S a = some o) : S.abs.heap.get? a = some o := by
  unfold getT at h
  cases hb : Nat.blt a S.n with
  | false => rw [hb] at h; cases h
  | true =>
    rw [hb] at h
    have hl : a < S.n := Nat.le_of_ble_eq_true hb
    cases hg : S.tree.get a with
    | none => rw [hg] at h; cases h
    | some x =>
      rw [hg] at h
      exact (abs_get hl hg).trans h
theorem getT_all {S : SharedT} : ∀ {as : List Nat} {os : List Obj}, as.map (getT S) = os.map some → as.map S.abs.heap.get? = os.map some
  | [], [], _ => rfl
  | [], _ :: _, h => by cases h
  | _ :: _, [], h => by cases h
  | a :: as, o :: os, h => by
    simp only [List.map_cons, List.cons.injEq] at h ⊢
    exact ⟨getT_of h.1, getT_all h.2⟩
theorem left_of {p q : Program} {loose : List Str} {Xt : Shared → Bool} {as : List Nat} {Ya : World → List Obj} {N : Nat}
    (H : ∀ w, seenAll p q loose Xt N w = goodAll q loose) (R : ∀ w, readAll p as N w = some ((Ya w).map some)) : LeftO p q loose Xt (fun s => as.map s.heap.get?) (fun w => (Ya w).map some) N := fun w => by
  have h := H w
  have k := R w
  unfold seenAll goodAll at h
  unfold readAll at k
  obtain ⟨s₀, e₀, h⟩ := Option.bind_eq_some_iff.mp h
  unfold openEnds
  rw [e₀] at k ⊢
  show (topFrom treeTable p w N s₀).map _ = _
  unfold topFrom
  cases hg : (s₀.heap.isNs mainGlobals && s₀.gens.size == 0) with
  | false => rw [hg] at h; cases h
  | true =>
    rw [hg] at h
    obtain ⟨t, e₁, h⟩ := Option.bind_eq_some_iff.mp h
    obtain ⟨S, e₂, h⟩ := Option.map_eq_some_iff.mp h
    rw [Option.bind_some, e₁, Option.bind_some, e₂] at k
    have k' := getT_all (Option.some.inj k)
    have r := topRunT_of e₂
    have ab : (⟨t, s₀.heap.objs.size, s₀.heap.life, s₀.gens, s₀.drawn, s₀.toks, s₀.os⟩ : SharedT).abs = s₀ := by
      show (⟨absHeap t s₀.heap.objs.size s₀.heap.life, s₀.gens, s₀.drawn, s₀.toks, s₀.os⟩ : Shared) = s₀
      rw [layT_all e₁]
    rw [ab] at r
    simp only [Prod.mk.injEq] at h
    obtain ⟨h1, h2⟩ := h
    dsimp only
    rw [r, Option.bind_some, h1]
    exact congrArg some (Prod.ext h2 k')
set_option maxRecDepth 100000 in
lay_quick Mine.seenAll Mine.goodAll Mine.readAll

end Mine
end

-- A1
section
namespace Mine

noncomputable def TB : List Stmt := PySem.Challenge.pw_of0105_01.main.body
def nthS : List Stmt → Nat → Stmt
  | [], _ => .Pass ⟨0, 0, 0, 0⟩
  | s :: _, 0 => s
  | _ :: r, n + 1 => nthS r n
def bodyS : Stmt → List Stmt
  | .ClassDef _ _ _ b _ _ _ _ _ _ _ => b
  | _ => []
/-- the data of a def of the text -/
def fnO (s : Stmt) (qual : Str) (g : Nat) (cl : List (Str × Nat)) (dV kV doc pm : Value) (an : Option Nat) (cdv ct : Value) (bi : Nat) : FuncData := match s with
  | .FunctionDef n a b _ _ _ sc _ _ _ => ⟨n, qual, a, .stmts b, sc, g, cl, dV, kV, doc, pm, an, cdv, ct, bi⟩
  | _ => ⟨qual, qual, ⟨[], [], none, [], [], none, []⟩, .stmts [], default, g, cl, dV, kV, doc, pm, an, cdv, ct, bi⟩
set_option maxRecDepth 100000 in
/-- the objects of the top's end that the walks read -/
noncomputable def KF : Params → Frag := fun P => (
  (nat_lit 2, ⟨.none, none, (.dict #[⟨PyData.keyHash P (Str.ofString "\x69mport.loaded._collections"), (.str (Str.ofString "\x69mport.loaded._collections") (185:Nat)), (.bool true)⟩, ⟨PyData.keyHash P (Str.ofString "class._frozen_importlib.BuiltinImporter"), (.str (Str.ofString "class._frozen_importlib.BuiltinImporter") (187:Nat)), (.ref (15:Nat))⟩, ⟨PyData.keyHash P (Str.ofString "watched.\x69mport"), (.str (Str.ofString "watched.\x69mport") (208:Nat)), (.ref (19:Nat))⟩, ⟨PyData.keyHash P (Str.ofString "class._frozen_importlib.ModuleSpec"), (.str (Str.ofString "class._frozen_importlib.ModuleSpec") (218:Nat)), (.ref (23:Nat))⟩, ⟨PyData.keyHash P (Str.ofString "sys.modules.booked-epoch"), (.str (Str.ofString "sys.modules.booked-epoch") (247:Nat)), (.int 3 (0:Nat))⟩, ⟨PyData.keyHash P (Str.ofString "sys.modules.landed._collections"), (.str (Str.ofString "sys.modules.landed._collections") (248:Nat)), (.bool true)⟩, ⟨PyData.keyHash P (Str.ofString "\x69mport.later-laid._collections"), (.str (Str.ofString "\x69mport.later-laid._collections") (263:Nat)), (.bool true)⟩, ⟨PyData.keyHash P (Str.ofString "watched.library"), (.str (Str.ofString "watched.library") (265:Nat)), (.ref (28:Nat))⟩, ⟨PyData.keyHash P (Str.ofString "watched.library-objects"), (.str (Str.ofString "watched.library-objects") (0:Nat)), (.str (Str.ofString "\x0d") (0:Nat))⟩, ⟨PyData.keyHash P (Str.ofString "watched.library-deep._collections"), (.str (Str.ofString "watched.library-deep._collections") (266:Nat)), (.str (Str.ofString "\x04\x00\x00\x0c\x04\x00\x00\x0c\x04\x00\x00\x03\x04\x00\x00\x0c\x08\x04dict\x02") (0:Nat))⟩, ⟨PyData.keyHash P (Str.ofString "type.__subclasses__.OSError.0"), (.str (Str.ofString "type.__subclasses__.OSError.0") (366:Nat)), (.int 105 (0:Nat))⟩, ⟨PyData.keyHash P (Str.ofString "type.__subclasses__.OSError.n"), (.str (Str.ofString "type.__subclasses__.OSError.n") (367:Nat)), (.int 1 (0:Nat))⟩] (12:Nat)), #[]⟩) ::
  (nat_lit 3, ⟨(.type "dict"), none, (.dict #[⟨PyData.keyHash P (Str.ofString "__name__"), (.str (Str.ofString "__name__") (165:Nat)), (.str (Str.ofString "law_of0105_01") (1202:Nat))⟩, ⟨PyData.keyHash P (Str.ofString "__doc__"), (.str (Str.ofString "__doc__") (166:Nat)), .none⟩, ⟨PyData.keyHash P (Str.ofString "__package__"), (.str (Str.ofString "__package__") (167:Nat)), .none⟩, ⟨PyData.keyHash P (Str.ofString "__loader__"), (.str (Str.ofString "__loader__") (168:Nat)), (.builtin "__main__.__loader__#opaque")⟩, ⟨PyData.keyHash P (Str.ofString "__spec__"), (.str (Str.ofString "__spec__") (169:Nat)), .none⟩, ⟨PyData.keyHash P (Str.ofString "__annotations__"), (.str (Str.ofString "__annotations__") (170:Nat)), (.ref (6:Nat))⟩, ⟨PyData.keyHash P (Str.ofString "__builtins__"), (.str (Str.ofString "__builtins__") (171:Nat)), (.ref (4:Nat))⟩, ⟨PyData.keyHash P (Str.ofString "__file__"), (.str (Str.ofString "__file__") (173:Nat)), (.str (Str.ofString "/claim/cut.py") (172:Nat))⟩, ⟨PyData.keyHash P (Str.ofString "__cached__"), (.str (Str.ofString "__cached__") (174:Nat)), .none⟩, ⟨PyData.keyHash P (Str.ofString "deque"), (.str (Str.ofString "deque") (272:Nat)), (.type "collections.deque")⟩, ⟨PyData.keyHash P (Str.ofString "_wall"), (.str (Str.ofString "_wall") (285:Nat)), (.ref (39:Nat))⟩, ⟨PyData.keyHash P (Str.ofString "_raise_serialization_error"), (.str (Str.ofString "_raise_serialization_error") (294:Nat)), (.ref (46:Nat))⟩, ⟨PyData.keyHash P (Str.ofString "_escape_cdata"), (.str (Str.ofString "_escape_cdata") (301:Nat)), (.ref (53:Nat))⟩, ⟨PyData.keyHash P (Str.ofString "_escape_attrib"), (.str (Str.ofString "_escape_attrib") (308:Nat)), (.ref (60:Nat))⟩, ⟨PyData.keyHash P (Str.ofString "_escape_attrib_html"), (.str (Str.ofString "_escape_attrib_html") (315:Nat)), (.ref (67:Nat))⟩, ⟨PyData.keyHash P (Str.ofString "_escape_cdata_c14n"), (.str (Str.ofString "_escape_cdata_c14n") (322:Nat)), (.ref (74:Nat))⟩, ⟨PyData.keyHash P (Str.ofString "_escape_attrib_c14n"), (.str (Str.ofString "_escape_attrib_c14n") (329:Nat)), (.ref (81:Nat))⟩, ⟨PyData.keyHash P (Str.ofString "_whence"), (.str (Str.ofString "_whence") (339:Nat)), (.ref (88:Nat))⟩, ⟨PyData.keyHash P (Str.ofString "_index"), (.str (Str.ofString "_index") (347:Nat)), (.ref (95:Nat))⟩, ⟨PyData.keyHash P (Str.ofString "UnsupportedOperation"), (.str (Str.ofString "UnsupportedOperation") (369:Nat)), (.ref (105:Nat))⟩, ⟨PyData.keyHash P (Str.ofString "IOBase"), (.str (Str.ofString "IOBase") (401:Nat)), (.ref (125:Nat))⟩, ⟨PyData.keyHash P (Str.ofString "BufferedIOBase"), (.str (Str.ofString "BufferedIOBase") (419:Nat)), (.ref (140:Nat))⟩, ⟨PyData.keyHash P (Str.ofString "TextIOBase"), (.str (Str.ofString "TextIOBase") (437:Nat)), (.ref (152:Nat))⟩, ⟨PyData.keyHash P (Str.ofString "BytesIO"), (.str (Str.ofString "BytesIO") (699:Nat)), (.ref (382:Nat))⟩, ⟨PyData.keyHash P (Str.ofString "StringIO"), (.str (Str.ofString "StringIO") (986:Nat)), (.ref (629:Nat))⟩, ⟨PyData.keyHash P (Str.ofString "_kind"), (.str (Str.ofString "_kind") (997:Nat)), (.ref (638:Nat))⟩, ⟨PyData.keyHash P (Str.ofString "_fspath"), (.str (Str.ofString "_fspath") (1006:Nat)), (.ref (645:Nat))⟩, ⟨PyData.keyHash P (Str.ofString "_check_arg_types"), (.str (Str.ofString "_check_arg_types") (1016:Nat)), (.ref (652:Nat))⟩, ⟨PyData.keyHash P (Str.ofString "isabs"), (.str (Str.ofString "isabs") (1023:Nat)), (.ref (659:Nat))⟩, ⟨PyData.keyHash P (Str.ofString "join"), (.str (Str.ofString "join") (1034:Nat)), (.ref (666:Nat))⟩, ⟨PyData.keyHash P (Str.ofString "dirname"), (.str (Str.ofString "dirname") (1044:Nat)), (.ref (673:Nat))⟩, ⟨PyData.keyHash P (Str.ofString "shlex"), (.str (Str.ofString "shlex") (1185:Nat)), (.ref (764:Nat))⟩, ⟨PyData.keyHash P (Str.ofString "sorted_list_difference"), (.str (Str.ofString "sorted_list_difference") (1201:Nat)), (.ref (775:Nat))⟩, ⟨PyData.keyHash P (Str.ofString "_law_text"), (.str (Str.ofString "_law_text") (1209:Nat)), (.ref (780:Nat))⟩, ⟨PyData.keyHash P (Str.ofString "_law_escaped"), (.str (Str.ofString "_law_escaped") (1217:Nat)), (.ref (787:Nat))⟩, ⟨PyData.keyHash P (Str.ofString "_law_lexed"), (.str (Str.ofString "_law_lexed") (1227:Nat)), (.ref (794:Nat))⟩, ⟨PyData.keyHash P (Str.ofString "_law_plain"), (.str (Str.ofString "_law_plain") (1233:Nat)), (.ref (799:Nat))⟩, ⟨PyData.keyHash P (Str.ofString "law"), (.str (Str.ofString "law") (1239:Nat)), (.ref (804:Nat))⟩] (38:Nat)), #[]⟩) ::
  (nat_lit 33, ⟨(.type "tuple"), none, (.seq #[] (0:Nat)), #[]⟩) ::
  (nat_lit 35, ⟨(.type "tuple"), none, (.seq #[(.str (Str.ofString "k") (282:Nat))] (0:Nat)), #[]⟩) ::
  (nat_lit 36, ⟨(.type "tuple"), none, (.seq #[] (0:Nat)), #[]⟩) ::
  (nat_lit 38, ⟨(.type "code"), none, (.fields #[(.str (Str.ofString "_wall") (279:Nat)), (.str (Str.ofString "_wall") (280:Nat)), (.str (Str.ofString "/claim/cut.py") (281:Nat)), (.int 2 (0:Nat)), (.int 1 (0:Nat)), (.int 0 (0:Nat)), (.int 0 (0:Nat)), (.int 3 (0:Nat)), (.ref (33:Nat)), (.bool true), (.int 273 (0:Nat)), (.ref (34:Nat)), .none, (.ref (35:Nat)), (.ref (36:Nat)), (.ref (37:Nat)), (.int 283 (0:Nat)), (.int 2 (0:Nat)), (.str (Str.ofString "/claim/cut.py") (284:Nat))]), #[]⟩) ::
  (nat_lit 39, ⟨(.type "function"), none, (.func (fnO (nthS TB 1) (Str.ofString "_wall") (3:Nat) [] .none .none .none (.str (Str.ofString "__main__") (164:Nat)) none (.ref (38:Nat)) .none (0:Nat))), #[]⟩) ::
  (nat_lit 40, ⟨(.type "tuple"), none, (.seq #[] (0:Nat)), #[]⟩) ::
  (nat_lit 42, ⟨(.type "tuple"), none, (.seq #[(.str (Str.ofString "text") (291:Nat))] (0:Nat)), #[]⟩) ::
  (nat_lit 43, ⟨(.type "tuple"), none, (.seq #[] (0:Nat)), #[]⟩) ::
  (nat_lit 45, ⟨(.type "code"), none, (.fields #[(.str (Str.ofString "_raise_serialization_error") (288:Nat)), (.str (Str.ofString "_raise_serialization_error") (289:Nat)), (.str (Str.ofString "/claim/cut.py") (290:Nat)), (.int 6 (0:Nat)), (.int 1 (0:Nat)), (.int 0 (0:Nat)), (.int 0 (0:Nat)), (.int 3 (0:Nat)), (.ref (40:Nat)), (.bool true), (.int 273 (0:Nat)), (.ref (41:Nat)), .none, (.ref (42:Nat)), (.ref (43:Nat)), (.ref (44:Nat)), (.int 292 (0:Nat)), (.int 6 (0:Nat)), (.str (Str.ofString "/claim/cut.py") (293:Nat))]), #[]⟩) ::
  (nat_lit 46, ⟨(.type "function"), none, (.func (fnO (nthS TB 3) (Str.ofString "_raise_serialization_error") (3:Nat) [] .none .none .none (.str (Str.ofString "cpy313.xml.etree.ElementTree") (286:Nat)) none (.ref (45:Nat)) .none (0:Nat))), #[]⟩) ::
  (nat_lit 47, ⟨(.type "tuple"), none, (.seq #[] (0:Nat)), #[]⟩) ::
  (nat_lit 49, ⟨(.type "tuple"), none, (.seq #[(.str (Str.ofString "text") (298:Nat))] (0:Nat)), #[]⟩) ::
  (nat_lit 50, ⟨(.type "tuple"), none, (.seq #[] (0:Nat)), #[]⟩) ::
  (nat_lit 52, ⟨(.type "code"), none, (.fields #[(.str (Str.ofString "_escape_cdata") (295:Nat)), (.str (Str.ofString "_escape_cdata") (296:Nat)), (.str (Str.ofString "/claim/cut.py") (297:Nat)), (.int 8 (0:Nat)), (.int 1 (0:Nat)), (.int 0 (0:Nat)), (.int 0 (0:Nat)), (.int 3 (0:Nat)), (.ref (47:Nat)), (.bool true), (.int 273 (0:Nat)), (.ref (48:Nat)), .none, (.ref (49:Nat)), (.ref (50:Nat)), (.ref (51:Nat)), (.int 299 (0:Nat)), (.int 8 (0:Nat)), (.str (Str.ofString "/claim/cut.py") (300:Nat))]), #[]⟩) ::
  (nat_lit 53, ⟨(.type "function"), none, (.func (fnO (nthS TB 4) (Str.ofString "_escape_cdata") (3:Nat) [] .none .none .none (.str (Str.ofString "cpy313.xml.etree.ElementTree") (286:Nat)) none (.ref (52:Nat)) .none (0:Nat))), #[]⟩) ::
  (nat_lit 54, ⟨(.type "tuple"), none, (.seq #[] (0:Nat)), #[]⟩) ::
  (nat_lit 56, ⟨(.type "tuple"), none, (.seq #[(.str (Str.ofString "text") (305:Nat))] (0:Nat)), #[]⟩) ::
  (nat_lit 57, ⟨(.type "tuple"), none, (.seq #[] (0:Nat)), #[]⟩) ::
  (nat_lit 59, ⟨(.type "code"), none, (.fields #[(.str (Str.ofString "_escape_attrib") (302:Nat)), (.str (Str.ofString "_escape_attrib") (303:Nat)), (.str (Str.ofString "/claim/cut.py") (304:Nat)), (.int 19 (0:Nat)), (.int 1 (0:Nat)), (.int 0 (0:Nat)), (.int 0 (0:Nat)), (.int 3 (0:Nat)), (.ref (54:Nat)), (.bool true), (.int 273 (0:Nat)), (.ref (55:Nat)), .none, (.ref (56:Nat)), (.ref (57:Nat)), (.ref (58:Nat)), (.int 306 (0:Nat)), (.int 19 (0:Nat)), (.str (Str.ofString "/claim/cut.py") (307:Nat))]), #[]⟩) ::
  (nat_lit 60, ⟨(.type "function"), none, (.func (fnO (nthS TB 5) (Str.ofString "_escape_attrib") (3:Nat) [] .none .none .none (.str (Str.ofString "cpy313.xml.etree.ElementTree") (286:Nat)) none (.ref (59:Nat)) .none (0:Nat))), #[]⟩) ::
  (nat_lit 61, ⟨(.type "tuple"), none, (.seq #[] (0:Nat)), #[]⟩) ::
  (nat_lit 63, ⟨(.type "tuple"), none, (.seq #[(.str (Str.ofString "text") (312:Nat))] (0:Nat)), #[]⟩) ::
  (nat_lit 64, ⟨(.type "tuple"), none, (.seq #[] (0:Nat)), #[]⟩) ::
  (nat_lit 66, ⟨(.type "code"), none, (.fields #[(.str (Str.ofString "_escape_attrib_html") (309:Nat)), (.str (Str.ofString "_escape_attrib_html") (310:Nat)), (.str (Str.ofString "/claim/cut.py") (311:Nat)), (.int 38 (0:Nat)), (.int 1 (0:Nat)), (.int 0 (0:Nat)), (.int 0 (0:Nat)), (.int 3 (0:Nat)), (.ref (61:Nat)), (.bool true), (.int 273 (0:Nat)), (.ref (62:Nat)), .none, (.ref (63:Nat)), (.ref (64:Nat)), (.ref (65:Nat)), (.int 313 (0:Nat)), (.int 38 (0:Nat)), (.str (Str.ofString "/claim/cut.py") (314:Nat))]), #[]⟩) ::
  (nat_lit 67, ⟨(.type "function"), none, (.func (fnO (nthS TB 6) (Str.ofString "_escape_attrib_html") (3:Nat) [] .none .none .none (.str (Str.ofString "cpy313.xml.etree.ElementTree") (286:Nat)) none (.ref (66:Nat)) .none (0:Nat))), #[]⟩) ::
  (nat_lit 68, ⟨(.type "tuple"), none, (.seq #[] (0:Nat)), #[]⟩) ::
  (nat_lit 70, ⟨(.type "tuple"), none, (.seq #[(.str (Str.ofString "text") (319:Nat))] (0:Nat)), #[]⟩) ::
  (nat_lit 71, ⟨(.type "tuple"), none, (.seq #[] (0:Nat)), #[]⟩) ::
  (nat_lit 73, ⟨(.type "code"), none, (.fields #[(.str (Str.ofString "_escape_cdata_c14n") (316:Nat)), (.str (Str.ofString "_escape_cdata_c14n") (317:Nat)), (.str (Str.ofString "/claim/cut.py") (318:Nat)), (.int 49 (0:Nat)), (.int 1 (0:Nat)), (.int 0 (0:Nat)), (.int 0 (0:Nat)), (.int 3 (0:Nat)), (.ref (68:Nat)), (.bool true), (.int 273 (0:Nat)), (.ref (69:Nat)), .none, (.ref (70:Nat)), (.ref (71:Nat)), (.ref (72:Nat)), (.int 320 (0:Nat)), (.int 49 (0:Nat)), (.str (Str.ofString "/claim/cut.py") (321:Nat))]), #[]⟩) ::
  (nat_lit 74, ⟨(.type "function"), none, (.func (fnO (nthS TB 7) (Str.ofString "_escape_cdata_c14n") (3:Nat) [] .none .none .none (.str (Str.ofString "cpy313.xml.etree.ElementTree") (286:Nat)) none (.ref (73:Nat)) .none (0:Nat))), #[]⟩) ::
  (nat_lit 75, ⟨(.type "tuple"), none, (.seq #[] (0:Nat)), #[]⟩) ::
  (nat_lit 77, ⟨(.type "tuple"), none, (.seq #[(.str (Str.ofString "text") (326:Nat))] (0:Nat)), #[]⟩) ::
  (nat_lit 78, ⟨(.type "tuple"), none, (.seq #[] (0:Nat)), #[]⟩) ::
  (nat_lit 80, ⟨(.type "code"), none, (.fields #[(.str (Str.ofString "_escape_attrib_c14n") (323:Nat)), (.str (Str.ofString "_escape_attrib_c14n") (324:Nat)), (.str (Str.ofString "/claim/cut.py") (325:Nat)), (.int 62 (0:Nat)), (.int 1 (0:Nat)), (.int 0 (0:Nat)), (.int 0 (0:Nat)), (.int 3 (0:Nat)), (.ref (75:Nat)), (.bool true), (.int 273 (0:Nat)), (.ref (76:Nat)), .none, (.ref (77:Nat)), (.ref (78:Nat)), (.ref (79:Nat)), (.int 327 (0:Nat)), (.int 62 (0:Nat)), (.str (Str.ofString "/claim/cut.py") (328:Nat))]), #[]⟩) ::
  (nat_lit 81, ⟨(.type "function"), none, (.func (fnO (nthS TB 8) (Str.ofString "_escape_attrib_c14n") (3:Nat) [] .none .none .none (.str (Str.ofString "cpy313.xml.etree.ElementTree") (286:Nat)) none (.ref (80:Nat)) .none (0:Nat))), #[]⟩) ::
  (nat_lit 82, ⟨(.type "tuple"), none, (.seq #[] (0:Nat)), #[]⟩) ::
  (nat_lit 84, ⟨(.type "tuple"), none, (.seq #[(.str (Str.ofString "n") (335:Nat)), (.str (Str.ofString "what") (336:Nat))] (0:Nat)), #[]⟩) ::
  (nat_lit 85, ⟨(.type "tuple"), none, (.seq #[] (0:Nat)), #[]⟩) ::
  (nat_lit 87, ⟨(.type "code"), none, (.fields #[(.str (Str.ofString "_whence") (332:Nat)), (.str (Str.ofString "_whence") (333:Nat)), (.str (Str.ofString "/claim/cut.py") (334:Nat)), (.int 80 (0:Nat)), (.int 2 (0:Nat)), (.int 0 (0:Nat)), (.int 0 (0:Nat)), (.int 3 (0:Nat)), (.ref (82:Nat)), (.bool true), (.int 273 (0:Nat)), (.ref (83:Nat)), .none, (.ref (84:Nat)), (.ref (85:Nat)), (.ref (86:Nat)), (.int 337 (0:Nat)), (.int 80 (0:Nat)), (.str (Str.ofString "/claim/cut.py") (338:Nat))]), #[]⟩) ::
  (nat_lit 88, ⟨(.type "function"), none, (.func (fnO (nthS TB 10) (Str.ofString "_whence") (3:Nat) [] .none .none .none (.str (Str.ofString "io") (330:Nat)) none (.ref (87:Nat)) .none (0:Nat))), #[]⟩) ::
  (nat_lit 89, ⟨(.type "tuple"), none, (.seq #[] (0:Nat)), #[]⟩) ::
  (nat_lit 91, ⟨(.type "tuple"), none, (.seq #[(.str (Str.ofString "n") (343:Nat)), (.str (Str.ofString "what") (344:Nat))] (0:Nat)), #[]⟩) ::
  (nat_lit 92, ⟨(.type "tuple"), none, (.seq #[] (0:Nat)), #[]⟩) ::
  (nat_lit 94, ⟨(.type "code"), none, (.fields #[(.str (Str.ofString "_index") (340:Nat)), (.str (Str.ofString "_index") (341:Nat)), (.str (Str.ofString "/claim/cut.py") (342:Nat)), (.int 85 (0:Nat)), (.int 2 (0:Nat)), (.int 0 (0:Nat)), (.int 0 (0:Nat)), (.int 3 (0:Nat)), (.ref (89:Nat)), (.bool true), (.int 273 (0:Nat)), (.ref (90:Nat)), .none, (.ref (91:Nat)), (.ref (92:Nat)), (.ref (93:Nat)), (.int 345 (0:Nat)), (.int 85 (0:Nat)), (.str (Str.ofString "/claim/cut.py") (346:Nat))]), #[]⟩) ::
  (nat_lit 95, ⟨(.type "function"), none, (.func (fnO (nthS TB 11) (Str.ofString "_index") (3:Nat) [] .none .none .none (.str (Str.ofString "io") (330:Nat)) none (.ref (94:Nat)) .none (0:Nat))), #[]⟩) ::
  (nat_lit 96, ⟨(.type "tuple"), none, (.seq #[(.type "OSError"), (.type "ValueError")] (0:Nat)), #[]⟩) ::
  (nat_lit 103, ⟨(.type "tuple"), none, (.seq #[] (0:Nat)), #[]⟩) ::
  (nat_lit 104, ⟨(.type "dict"), none, (.dict #[⟨PyData.keyHash P (Str.ofString "__module__"), (.str (Str.ofString "__module__") (355:Nat)), (.str (Str.ofString "io") (360:Nat))⟩, ⟨PyData.keyHash P (Str.ofString "__firstlineno__"), (.str (Str.ofString "__firstlineno__") (359:Nat)), (.int 92 (358:Nat))⟩, ⟨PyData.keyHash P (Str.ofString "__static_attributes__"), (.str (Str.ofString "__static_attributes__") (362:Nat)), (.ref (103:Nat))⟩, ⟨PyData.keyHash P (Str.ofString "__weakref__"), (.str (Str.ofString "__weakref__") (364:Nat)), (.ref (106:Nat))⟩, ⟨PyData.keyHash P (Str.ofString "__doc__"), (.str (Str.ofString "__doc__") (365:Nat)), .none⟩] (3:Nat)), #[]⟩) ::
  (nat_lit 105, ⟨(.type "type"), none, (.cls ⟨(Str.ofString "UnsupportedOperation"), [(.type "OSError"), (.type "ValueError")], [(.ref (105:Nat)), (.type "OSError"), (.type "ValueError"), (.type "Exception"), (.type "BaseException"), (.type "object")], (104:Nat), (Str.ofString "UnsupportedOperation"), true, [], [], false, none, false⟩), #[(some (.ref (96:Nat))), none, (some (.str (Str.ofString "UnsupportedOperation") (348:Nat))), (some (.str (Str.ofString "UnsupportedOperation") (356:Nat))), (some (.builtin "OSError.__new__")), (some (.bool true))]⟩) ::
  (nat_lit 106, ⟨(.type "getset_descriptor"), none, (.fields #[(.str (Str.ofString "__weakref__") (363:Nat)), (.ref (105:Nat)), (.builtin "ExceptionGroup.__weakref__"), .none]), #[]⟩) ::
  (nat_lit 116, ⟨(.type "tuple"), none, (.seq #[] (0:Nat)), #[]⟩) ::
  (nat_lit 118, ⟨(.type "tuple"), none, (.seq #[(.str (Str.ofString "cls") (387:Nat)), (.str (Str.ofString "args") (388:Nat)), (.str (Str.ofString "kwargs") (389:Nat))] (0:Nat)), #[]⟩) ::
  (nat_lit 119, ⟨(.type "tuple"), none, (.seq #[] (0:Nat)), #[]⟩) ::
  (nat_lit 121, ⟨(.type "code"), none, (.fields #[(.str (Str.ofString "__new__") (384:Nat)), (.str (Str.ofString "IOBase.__new__") (385:Nat)), (.str (Str.ofString "/claim/cut.py") (386:Nat)), (.int 97 (0:Nat)), (.int 1 (0:Nat)), (.int 1 (0:Nat)), (.int 0 (0:Nat)), (.int 15 (0:Nat)), (.ref (116:Nat)), (.bool true), (.int 273 (0:Nat)), (.ref (117:Nat)), .none, (.ref (118:Nat)), (.ref (119:Nat)), (.ref (120:Nat)), (.int 390 (0:Nat)), (.int 97 (0:Nat)), (.str (Str.ofString "/claim/cut.py") (391:Nat))]), #[]⟩) ::
  (nat_lit 122, ⟨(.type "function"), none, (.func (fnO (nthS (bodyS (nthS TB 13)) 1) (Str.ofString "IOBase.__new__") (3:Nat) [] .none .none .none (.str (Str.ofString "io") (330:Nat)) none (.ref (121:Nat)) .none (0:Nat))), #[]⟩) ::
  (nat_lit 123, ⟨(.type "tuple"), none, (.seq #[] (0:Nat)), #[]⟩) ::
  (nat_lit 124, ⟨(.type "dict"), none, (.dict #[⟨PyData.keyHash P (Str.ofString "__module__"), (.str (Str.ofString "__module__") (377:Nat)), (.str (Str.ofString "io") (382:Nat))⟩, ⟨PyData.keyHash P (Str.ofString "__firstlineno__"), (.str (Str.ofString "__firstlineno__") (381:Nat)), (.int 94 (380:Nat))⟩, ⟨PyData.keyHash P (Str.ofString "__new__"), (.str (Str.ofString "__new__") (392:Nat)), (.ref (126:Nat))⟩, ⟨PyData.keyHash P (Str.ofString "__static_attributes__"), (.str (Str.ofString "__static_attributes__") (393:Nat)), (.ref (123:Nat))⟩, ⟨PyData.keyHash P (Str.ofString "__dict__"), (.str (Str.ofString "__dict__") (396:Nat)), (.ref (127:Nat))⟩, ⟨PyData.keyHash P (Str.ofString "__weakref__"), (.str (Str.ofString "__weakref__") (398:Nat)), (.ref (128:Nat))⟩, ⟨PyData.keyHash P (Str.ofString "__doc__"), (.str (Str.ofString "__doc__") (399:Nat)), .none⟩] (4:Nat)), #[]⟩) ::
  (nat_lit 125, ⟨(.type "type"), none, (.cls ⟨(Str.ofString "IOBase"), [(.type "object")], [(.ref (125:Nat)), (.type "object")], (124:Nat), (Str.ofString "IOBase"), true, [], [(.ref (140:Nat)), (.ref (152:Nat))], false, none, false⟩), #[none, none, (some (.str (Str.ofString "IOBase") (370:Nat))), (some (.str (Str.ofString "IOBase") (378:Nat))), (some .none), (some (.bool true))]⟩) ::
  (nat_lit 126, ⟨(.type "staticmethod"), none, (.fields #[(.ref (122:Nat))]), #[]⟩) ::
  (nat_lit 127, ⟨(.type "getset_descriptor"), none, (.fields #[(.str (Str.ofString "__dict__") (395:Nat)), (.ref (125:Nat)), (.builtin "function.__dict__"), (.builtin "function.__dict__#set")]), #[]⟩) ::
  (nat_lit 128, ⟨(.type "getset_descriptor"), none, (.fields #[(.str (Str.ofString "__weakref__") (397:Nat)), (.ref (125:Nat)), (.builtin "ExceptionGroup.__weakref__"), .none]), #[]⟩) ::
  (nat_lit 131, ⟨(.type "tuple"), none, (.seq #[(.ref (125:Nat))] (0:Nat)), #[]⟩) ::
  (nat_lit 138, ⟨(.type "tuple"), none, (.seq #[] (0:Nat)), #[]⟩) ::
  (nat_lit 139, ⟨(.type "dict"), none, (.dict #[⟨PyData.keyHash P (Str.ofString "__module__"), (.str (Str.ofString "__module__") (409:Nat)), (.str (Str.ofString "io") (414:Nat))⟩, ⟨PyData.keyHash P (Str.ofString "__firstlineno__"), (.str (Str.ofString "__firstlineno__") (413:Nat)), (.int 101 (412:Nat))⟩, ⟨PyData.keyHash P (Str.ofString "__static_attributes__"), (.str (Str.ofString "__static_attributes__") (416:Nat)), (.ref (138:Nat))⟩, ⟨PyData.keyHash P (Str.ofString "__doc__"), (.str (Str.ofString "__doc__") (417:Nat)), .none⟩] (2:Nat)), #[]⟩) ::
  (nat_lit 140, ⟨(.type "type"), none, (.cls ⟨(Str.ofString "BufferedIOBase"), [(.ref (125:Nat))], [(.ref (140:Nat)), (.ref (125:Nat)), (.type "object")], (139:Nat), (Str.ofString "BufferedIOBase"), true, [], [(.ref (382:Nat))], false, none, false⟩), #[(some (.ref (131:Nat))), none, (some (.str (Str.ofString "BufferedIOBase") (402:Nat))), (some (.str (Str.ofString "BufferedIOBase") (410:Nat))), (some .none), (some (.bool true))]⟩) ::
  (nat_lit 143, ⟨(.type "tuple"), none, (.seq #[(.ref (125:Nat))] (0:Nat)), #[]⟩) ::
  (nat_lit 150, ⟨(.type "tuple"), none, (.seq #[] (0:Nat)), #[]⟩) ::
  (nat_lit 151, ⟨(.type "dict"), none, (.dict #[⟨PyData.keyHash P (Str.ofString "__module__"), (.str (Str.ofString "__module__") (427:Nat)), (.str (Str.ofString "io") (432:Nat))⟩, ⟨PyData.keyHash P (Str.ofString "__firstlineno__"), (.str (Str.ofString "__firstlineno__") (431:Nat)), (.int 103 (430:Nat))⟩, ⟨PyData.keyHash P (Str.ofString "__static_attributes__"), (.str (Str.ofString "__static_attributes__") (434:Nat)), (.ref (150:Nat))⟩, ⟨PyData.keyHash P (Str.ofString "__doc__"), (.str (Str.ofString "__doc__") (435:Nat)), .none⟩] (2:Nat)), #[]⟩) ::
  (nat_lit 152, ⟨(.type "type"), none, (.cls ⟨(Str.ofString "TextIOBase"), [(.ref (125:Nat))], [(.ref (152:Nat)), (.ref (125:Nat)), (.type "object")], (151:Nat), (Str.ofString "TextIOBase"), true, [], [(.ref (629:Nat))], false, none, false⟩), #[(some (.ref (143:Nat))), none, (some (.str (Str.ofString "TextIOBase") (420:Nat))), (some (.str (Str.ofString "TextIOBase") (428:Nat))), (some .none), (some (.bool true))]⟩) ::
  (nat_lit 155, ⟨(.type "tuple"), none, (.seq #[(.ref (140:Nat))] (0:Nat)), #[]⟩) ::
  (nat_lit 162, ⟨(.type "tuple"), none, (.seq #[.none] (0:Nat)), #[]⟩) ::
  (nat_lit 163, ⟨(.type "tuple"), none, (.seq #[] (0:Nat)), #[]⟩) ::
  (nat_lit 165, ⟨(.type "tuple"), none, (.seq #[(.str (Str.ofString "self") (455:Nat)), (.str (Str.ofString "initial_bytes") (456:Nat))] (0:Nat)), #[]⟩) ::
  (nat_lit 166, ⟨(.type "tuple"), none, (.seq #[] (0:Nat)), #[]⟩) ::
  (nat_lit 168, ⟨(.type "code"), none, (.fields #[(.str (Str.ofString "__init__") (452:Nat)), (.str (Str.ofString "BytesIO.__init__") (453:Nat)), (.str (Str.ofString "/claim/cut.py") (454:Nat)), (.int 108 (0:Nat)), (.int 2 (0:Nat)), (.int 0 (0:Nat)), (.int 0 (0:Nat)), (.int 3 (0:Nat)), (.ref (163:Nat)), (.bool true), (.int 273 (0:Nat)), (.ref (164:Nat)), .none, (.ref (165:Nat)), (.ref (166:Nat)), (.ref (167:Nat)), (.int 457 (0:Nat)), (.int 108 (0:Nat)), (.str (Str.ofString "/claim/cut.py") (458:Nat))]), #[]⟩) ::
  (nat_lit 169, ⟨(.type "function"), none, (.func (fnO (nthS (bodyS (nthS TB 16)) 1) (Str.ofString "BytesIO.__init__") (3:Nat) [] (.ref (162:Nat)) .none .none (.str (Str.ofString "io") (330:Nat)) none (.ref (168:Nat)) .none (0:Nat))), #[]⟩) ::
  (nat_lit 170, ⟨(.type "tuple"), none, (.seq #[] (0:Nat)), #[]⟩) ::
  (nat_lit 172, ⟨(.type "tuple"), none, (.seq #[(.str (Str.ofString "self") (463:Nat))] (0:Nat)), #[]⟩) ::
  (nat_lit 173, ⟨(.type "tuple"), none, (.seq #[] (0:Nat)), #[]⟩) ::
  (nat_lit 175, ⟨(.type "code"), none, (.fields #[(.str (Str.ofString "__check") (460:Nat)), (.str (Str.ofString "BytesIO.__check") (461:Nat)), (.str (Str.ofString "/claim/cut.py") (462:Nat)), (.int 114 (0:Nat)), (.int 1 (0:Nat)), (.int 0 (0:Nat)), (.int 0 (0:Nat)), (.int 3 (0:Nat)), (.ref (170:Nat)), (.bool true), (.int 273 (0:Nat)), (.ref (171:Nat)), .none, (.ref (172:Nat)), (.ref (173:Nat)), (.ref (174:Nat)), (.int 464 (0:Nat)), (.int 114 (0:Nat)), (.str (Str.ofString "/claim/cut.py") (465:Nat))]), #[]⟩) ::
  (nat_lit 176, ⟨(.type "function"), none, (.func (fnO (nthS (bodyS (nthS TB 16)) 2) (Str.ofString "BytesIO.__check") (3:Nat) [] .none .none .none (.str (Str.ofString "io") (330:Nat)) none (.ref (175:Nat)) .none (0:Nat))), #[]⟩) ::
  (nat_lit 177, ⟨(.type "tuple"), none, (.seq #[] (0:Nat)), #[]⟩) ::
  (nat_lit 179, ⟨(.type "tuple"), none, (.seq #[(.str (Str.ofString "self") (470:Nat)), (.str (Str.ofString "limit") (471:Nat)), (.str (Str.ofString "start") (472:Nat)), (.str (Str.ofString "stop") (473:Nat)), (.str (Str.ofString "i") (474:Nat))] (0:Nat)), #[]⟩) ::
  (nat_lit 180, ⟨(.type "tuple"), none, (.seq #[] (0:Nat)), #[]⟩) ::
  (nat_lit 182, ⟨(.type "code"), none, (.fields #[(.str (Str.ofString "__line") (467:Nat)), (.str (Str.ofString "BytesIO.__line") (468:Nat)), (.str (Str.ofString "/claim/cut.py") (469:Nat)), (.int 118 (0:Nat)), (.int 2 (0:Nat)), (.int 0 (0:Nat)), (.int 0 (0:Nat)), (.int 3 (0:Nat)), (.ref (177:Nat)), (.bool true), (.int 273 (0:Nat)), (.ref (178:Nat)), .none, (.ref (179:Nat)), (.ref (180:Nat)), (.ref (181:Nat)), (.int 475 (0:Nat)), (.int 118 (0:Nat)), (.str (Str.ofString "/claim/cut.py") (476:Nat))]), #[]⟩) ::
  (nat_lit 183, ⟨(.type "function"), none, (.func (fnO (nthS (bodyS (nthS TB 16)) 3) (Str.ofString "BytesIO.__line") (3:Nat) [] .none .none .none (.str (Str.ofString "io") (330:Nat)) none (.ref (182:Nat)) .none (0:Nat))), #[]⟩) ::
  (nat_lit 184, ⟨(.type "tuple"), none, (.seq #[] (0:Nat)), #[]⟩) ::
  (nat_lit 186, ⟨(.type "tuple"), none, (.seq #[(.str (Str.ofString "self") (481:Nat))] (0:Nat)), #[]⟩) ::
  (nat_lit 187, ⟨(.type "tuple"), none, (.seq #[] (0:Nat)), #[]⟩) ::
  (nat_lit 189, ⟨(.type "code"), none, (.fields #[(.str (Str.ofString "closed") (478:Nat)), (.str (Str.ofString "BytesIO.closed") (479:Nat)), (.str (Str.ofString "/claim/cut.py") (480:Nat)), (.int 131 (0:Nat)), (.int 1 (0:Nat)), (.int 0 (0:Nat)), (.int 0 (0:Nat)), (.int 3 (0:Nat)), (.ref (184:Nat)), (.bool true), (.int 273 (0:Nat)), (.ref (185:Nat)), .none, (.ref (186:Nat)), (.ref (187:Nat)), (.ref (188:Nat)), (.int 482 (0:Nat)), (.int 131 (0:Nat)), (.str (Str.ofString "/claim/cut.py") (483:Nat))]), #[]⟩) ::
  (nat_lit 190, ⟨(.type "function"), none, (.func (fnO (nthS (bodyS (nthS TB 16)) 4) (Str.ofString "BytesIO.closed") (3:Nat) [] .none .none .none (.str (Str.ofString "io") (330:Nat)) none (.ref (189:Nat)) .none (0:Nat))), #[]⟩) ::
  (nat_lit 191, ⟨(.type "property"), none, (.fields #[(.ref (190:Nat)), .none, .none, .none, (.str (Str.ofString "closed") (485:Nat)), (.bool false)]), #[]⟩) ::
  (nat_lit 192, ⟨(.type "tuple"), none, (.seq #[] (0:Nat)), #[]⟩) ::
  (nat_lit 194, ⟨(.type "tuple"), none, (.seq #[(.str (Str.ofString "self") (489:Nat))] (0:Nat)), #[]⟩) ::
  (nat_lit 195, ⟨(.type "tuple"), none, (.seq #[] (0:Nat)), #[]⟩) ::
  (nat_lit 197, ⟨(.type "code"), none, (.fields #[(.str (Str.ofString "close") (486:Nat)), (.str (Str.ofString "BytesIO.close") (487:Nat)), (.str (Str.ofString "/claim/cut.py") (488:Nat)), (.int 135 (0:Nat)), (.int 1 (0:Nat)), (.int 0 (0:Nat)), (.int 0 (0:Nat)), (.int 3 (0:Nat)), (.ref (192:Nat)), (.bool true), (.int 273 (0:Nat)), (.ref (193:Nat)), .none, (.ref (194:Nat)), (.ref (195:Nat)), (.ref (196:Nat)), (.int 490 (0:Nat)), (.int 135 (0:Nat)), (.str (Str.ofString "/claim/cut.py") (491:Nat))]), #[]⟩) ::
  (nat_lit 198, ⟨(.type "function"), none, (.func (fnO (nthS (bodyS (nthS TB 16)) 5) (Str.ofString "BytesIO.close") (3:Nat) [] .none .none .none (.str (Str.ofString "io") (330:Nat)) none (.ref (197:Nat)) .none (0:Nat))), #[]⟩) ::
  (nat_lit 199, ⟨(.type "tuple"), none, (.seq #[] (0:Nat)), #[]⟩) ::
  (nat_lit 201, ⟨(.type "tuple"), none, (.seq #[(.str (Str.ofString "self") (496:Nat))] (0:Nat)), #[]⟩) ::
  (nat_lit 202, ⟨(.type "tuple"), none, (.seq #[] (0:Nat)), #[]⟩) ::
  (nat_lit 204, ⟨(.type "code"), none, (.fields #[(.str (Str.ofString "__enter__") (493:Nat)), (.str (Str.ofString "BytesIO.__enter__") (494:Nat)), (.str (Str.ofString "/claim/cut.py") (495:Nat)), (.int 138 (0:Nat)), (.int 1 (0:Nat)), (.int 0 (0:Nat)), (.int 0 (0:Nat)), (.int 3 (0:Nat)), (.ref (199:Nat)), (.bool true), (.int 273 (0:Nat)), (.ref (200:Nat)), .none, (.ref (201:Nat)), (.ref (202:Nat)), (.ref (203:Nat)), (.int 497 (0:Nat)), (.int 138 (0:Nat)), (.str (Str.ofString "/claim/cut.py") (498:Nat))]), #[]⟩) ::
  (nat_lit 205, ⟨(.type "function"), none, (.func (fnO (nthS (bodyS (nthS TB 16)) 6) (Str.ofString "BytesIO.__enter__") (3:Nat) [] .none .none .none (.str (Str.ofString "io") (330:Nat)) none (.ref (204:Nat)) .none (0:Nat))), #[]⟩) ::
  (nat_lit 206, ⟨(.type "tuple"), none, (.seq #[] (0:Nat)), #[]⟩) ::
  (nat_lit 208, ⟨(.type "tuple"), none, (.seq #[(.str (Str.ofString "self") (503:Nat)), (.str (Str.ofString "args") (504:Nat))] (0:Nat)), #[]⟩) ::
  (nat_lit 209, ⟨(.type "tuple"), none, (.seq #[] (0:Nat)), #[]⟩) ::
  (nat_lit 211, ⟨(.type "code"), none, (.fields #[(.str (Str.ofString "__exit__") (500:Nat)), (.str (Str.ofString "BytesIO.__exit__") (501:Nat)), (.str (Str.ofString "/claim/cut.py") (502:Nat)), (.int 142 (0:Nat)), (.int 1 (0:Nat)), (.int 0 (0:Nat)), (.int 0 (0:Nat)), (.int 7 (0:Nat)), (.ref (206:Nat)), (.bool true), (.int 273 (0:Nat)), (.ref (207:Nat)), .none, (.ref (208:Nat)), (.ref (209:Nat)), (.ref (210:Nat)), (.int 505 (0:Nat)), (.int 142 (0:Nat)), (.str (Str.ofString "/claim/cut.py") (506:Nat))]), #[]⟩) ::
  (nat_lit 212, ⟨(.type "function"), none, (.func (fnO (nthS (bodyS (nthS TB 16)) 7) (Str.ofString "BytesIO.__exit__") (3:Nat) [] .none .none .none (.str (Str.ofString "io") (330:Nat)) none (.ref (211:Nat)) .none (0:Nat))), #[]⟩) ::
  (nat_lit 213, ⟨(.type "tuple"), none, (.seq #[] (0:Nat)), #[]⟩) ::
  (nat_lit 215, ⟨(.type "tuple"), none, (.seq #[(.str (Str.ofString "self") (511:Nat))] (0:Nat)), #[]⟩) ::
  (nat_lit 216, ⟨(.type "tuple"), none, (.seq #[] (0:Nat)), #[]⟩) ::
  (nat_lit 218, ⟨(.type "code"), none, (.fields #[(.str (Str.ofString "readable") (508:Nat)), (.str (Str.ofString "BytesIO.readable") (509:Nat)), (.str (Str.ofString "/claim/cut.py") (510:Nat)), (.int 145 (0:Nat)), (.int 1 (0:Nat)), (.int 0 (0:Nat)), (.int 0 (0:Nat)), (.int 3 (0:Nat)), (.ref (213:Nat)), (.bool true), (.int 273 (0:Nat)), (.ref (214:Nat)), .none, (.ref (215:Nat)), (.ref (216:Nat)), (.ref (217:Nat)), (.int 512 (0:Nat)), (.int 145 (0:Nat)), (.str (Str.ofString "/claim/cut.py") (513:Nat))]), #[]⟩) ::
  (nat_lit 219, ⟨(.type "function"), none, (.func (fnO (nthS (bodyS (nthS TB 16)) 8) (Str.ofString "BytesIO.readable") (3:Nat) [] .none .none .none (.str (Str.ofString "io") (330:Nat)) none (.ref (218:Nat)) .none (0:Nat))), #[]⟩) ::
  (nat_lit 220, ⟨(.type "tuple"), none, (.seq #[] (0:Nat)), #[]⟩) ::
  (nat_lit 222, ⟨(.type "tuple"), none, (.seq #[(.str (Str.ofString "self") (518:Nat))] (0:Nat)), #[]⟩) ::
  (nat_lit 223, ⟨(.type "tuple"), none, (.seq #[] (0:Nat)), #[]⟩) ::
  (nat_lit 225, ⟨(.type "code"), none, (.fields #[(.str (Str.ofString "writable") (515:Nat)), (.str (Str.ofString "BytesIO.writable") (516:Nat)), (.str (Str.ofString "/claim/cut.py") (517:Nat)), (.int 149 (0:Nat)), (.int 1 (0:Nat)), (.int 0 (0:Nat)), (.int 0 (0:Nat)), (.int 3 (0:Nat)), (.ref (220:Nat)), (.bool true), (.int 273 (0:Nat)), (.ref (221:Nat)), .none, (.ref (222:Nat)), (.ref (223:Nat)), (.ref (224:Nat)), (.int 519 (0:Nat)), (.int 149 (0:Nat)), (.str (Str.ofString "/claim/cut.py") (520:Nat))]), #[]⟩) ::
  (nat_lit 226, ⟨(.type "function"), none, (.func (fnO (nthS (bodyS (nthS TB 16)) 9) (Str.ofString "BytesIO.writable") (3:Nat) [] .none .none .none (.str (Str.ofString "io") (330:Nat)) none (.ref (225:Nat)) .none (0:Nat))), #[]⟩) ::
  (nat_lit 227, ⟨(.type "tuple"), none, (.seq #[] (0:Nat)), #[]⟩) ::
  (nat_lit 229, ⟨(.type "tuple"), none, (.seq #[(.str (Str.ofString "self") (525:Nat))] (0:Nat)), #[]⟩) ::
  (nat_lit 230, ⟨(.type "tuple"), none, (.seq #[] (0:Nat)), #[]⟩) ::
  (nat_lit 232, ⟨(.type "code"), none, (.fields #[(.str (Str.ofString "seekable") (522:Nat)), (.str (Str.ofString "BytesIO.seekable") (523:Nat)), (.str (Str.ofString "/claim/cut.py") (524:Nat)), (.int 153 (0:Nat)), (.int 1 (0:Nat)), (.int 0 (0:Nat)), (.int 0 (0:Nat)), (.int 3 (0:Nat)), (.ref (227:Nat)), (.bool true), (.int 273 (0:Nat)), (.ref (228:Nat)), .none, (.ref (229:Nat)), (.ref (230:Nat)), (.ref (231:Nat)), (.int 526 (0:Nat)), (.int 153 (0:Nat)), (.str (Str.ofString "/claim/cut.py") (527:Nat))]), #[]⟩) ::
  (nat_lit 233, ⟨(.type "function"), none, (.func (fnO (nthS (bodyS (nthS TB 16)) 10) (Str.ofString "BytesIO.seekable") (3:Nat) [] .none .none .none (.str (Str.ofString "io") (330:Nat)) none (.ref (232:Nat)) .none (0:Nat))), #[]⟩) ::
  (nat_lit 234, ⟨(.type "tuple"), none, (.seq #[] (0:Nat)), #[]⟩) ::
  (nat_lit 236, ⟨(.type "tuple"), none, (.seq #[(.str (Str.ofString "self") (532:Nat))] (0:Nat)), #[]⟩) ::
  (nat_lit 237, ⟨(.type "tuple"), none, (.seq #[] (0:Nat)), #[]⟩) ::
  (nat_lit 239, ⟨(.type "code"), none, (.fields #[(.str (Str.ofString "isatty") (529:Nat)), (.str (Str.ofString "BytesIO.isatty") (530:Nat)), (.str (Str.ofString "/claim/cut.py") (531:Nat)), (.int 157 (0:Nat)), (.int 1 (0:Nat)), (.int 0 (0:Nat)), (.int 0 (0:Nat)), (.int 3 (0:Nat)), (.ref (234:Nat)), (.bool true), (.int 273 (0:Nat)), (.ref (235:Nat)), .none, (.ref (236:Nat)), (.ref (237:Nat)), (.ref (238:Nat)), (.int 533 (0:Nat)), (.int 157 (0:Nat)), (.str (Str.ofString "/claim/cut.py") (534:Nat))]), #[]⟩) ::
  (nat_lit 240, ⟨(.type "function"), none, (.func (fnO (nthS (bodyS (nthS TB 16)) 11) (Str.ofString "BytesIO.isatty") (3:Nat) [] .none .none .none (.str (Str.ofString "io") (330:Nat)) none (.ref (239:Nat)) .none (0:Nat))), #[]⟩) ::
  (nat_lit 241, ⟨(.type "tuple"), none, (.seq #[] (0:Nat)), #[]⟩) ::
  (nat_lit 243, ⟨(.type "tuple"), none, (.seq #[(.str (Str.ofString "self") (539:Nat))] (0:Nat)), #[]⟩) ::
  (nat_lit 244, ⟨(.type "tuple"), none, (.seq #[] (0:Nat)), #[]⟩) ::
  (nat_lit 246, ⟨(.type "code"), none, (.fields #[(.str (Str.ofString "flush") (536:Nat)), (.str (Str.ofString "BytesIO.flush") (537:Nat)), (.str (Str.ofString "/claim/cut.py") (538:Nat)), (.int 161 (0:Nat)), (.int 1 (0:Nat)), (.int 0 (0:Nat)), (.int 0 (0:Nat)), (.int 3 (0:Nat)), (.ref (241:Nat)), (.bool true), (.int 273 (0:Nat)), (.ref (242:Nat)), .none, (.ref (243:Nat)), (.ref (244:Nat)), (.ref (245:Nat)), (.int 540 (0:Nat)), (.int 161 (0:Nat)), (.str (Str.ofString "/claim/cut.py") (541:Nat))]), #[]⟩) ::
  (nat_lit 247, ⟨(.type "function"), none, (.func (fnO (nthS (bodyS (nthS TB 16)) 12) (Str.ofString "BytesIO.flush") (3:Nat) [] .none .none .none (.str (Str.ofString "io") (330:Nat)) none (.ref (246:Nat)) .none (0:Nat))), #[]⟩) ::
  (nat_lit 248, ⟨(.type "tuple"), none, (.seq #[] (0:Nat)), #[]⟩) ::
  (nat_lit 250, ⟨(.type "tuple"), none, (.seq #[(.str (Str.ofString "self") (546:Nat))] (0:Nat)), #[]⟩) ::
  (nat_lit 251, ⟨(.type "tuple"), none, (.seq #[] (0:Nat)), #[]⟩) ::
  (nat_lit 253, ⟨(.type "code"), none, (.fields #[(.str (Str.ofString "fileno") (543:Nat)), (.str (Str.ofString "BytesIO.fileno") (544:Nat)), (.str (Str.ofString "/claim/cut.py") (545:Nat)), (.int 164 (0:Nat)), (.int 1 (0:Nat)), (.int 0 (0:Nat)), (.int 0 (0:Nat)), (.int 3 (0:Nat)), (.ref (248:Nat)), (.bool true), (.int 273 (0:Nat)), (.ref (249:Nat)), .none, (.ref (250:Nat)), (.ref (251:Nat)), (.ref (252:Nat)), (.int 547 (0:Nat)), (.int 164 (0:Nat)), (.str (Str.ofString "/claim/cut.py") (548:Nat))]), #[]⟩) ::
  (nat_lit 254, ⟨(.type "function"), none, (.func (fnO (nthS (bodyS (nthS TB 16)) 13) (Str.ofString "BytesIO.fileno") (3:Nat) [] .none .none .none (.str (Str.ofString "io") (330:Nat)) none (.ref (253:Nat)) .none (0:Nat))), #[]⟩) ::
  (nat_lit 255, ⟨(.type "tuple"), none, (.seq #[] (0:Nat)), #[]⟩) ::
  (nat_lit 257, ⟨(.type "tuple"), none, (.seq #[(.str (Str.ofString "self") (553:Nat))] (0:Nat)), #[]⟩) ::
  (nat_lit 258, ⟨(.type "tuple"), none, (.seq #[] (0:Nat)), #[]⟩) ::
  (nat_lit 260, ⟨(.type "code"), none, (.fields #[(.str (Str.ofString "detach") (550:Nat)), (.str (Str.ofString "BytesIO.detach") (551:Nat)), (.str (Str.ofString "/claim/cut.py") (552:Nat)), (.int 167 (0:Nat)), (.int 1 (0:Nat)), (.int 0 (0:Nat)), (.int 0 (0:Nat)), (.int 3 (0:Nat)), (.ref (255:Nat)), (.bool true), (.int 273 (0:Nat)), (.ref (256:Nat)), .none, (.ref (257:Nat)), (.ref (258:Nat)), (.ref (259:Nat)), (.int 554 (0:Nat)), (.int 167 (0:Nat)), (.str (Str.ofString "/claim/cut.py") (555:Nat))]), #[]⟩) ::
  (nat_lit 261, ⟨(.type "function"), none, (.func (fnO (nthS (bodyS (nthS TB 16)) 14) (Str.ofString "BytesIO.detach") (3:Nat) [] .none .none .none (.str (Str.ofString "io") (330:Nat)) none (.ref (260:Nat)) .none (0:Nat))), #[]⟩) ::
  (nat_lit 262, ⟨(.type "tuple"), none, (.seq #[] (0:Nat)), #[]⟩) ::
  (nat_lit 264, ⟨(.type "tuple"), none, (.seq #[(.str (Str.ofString "self") (560:Nat))] (0:Nat)), #[]⟩) ::
  (nat_lit 265, ⟨(.type "tuple"), none, (.seq #[] (0:Nat)), #[]⟩) ::
  (nat_lit 267, ⟨(.type "code"), none, (.fields #[(.str (Str.ofString "getvalue") (557:Nat)), (.str (Str.ofString "BytesIO.getvalue") (558:Nat)), (.str (Str.ofString "/claim/cut.py") (559:Nat)), (.int 170 (0:Nat)), (.int 1 (0:Nat)), (.int 0 (0:Nat)), (.int 0 (0:Nat)), (.int 3 (0:Nat)), (.ref (262:Nat)), (.bool true), (.int 273 (0:Nat)), (.ref (263:Nat)), .none, (.ref (264:Nat)), (.ref (265:Nat)), (.ref (266:Nat)), (.int 561 (0:Nat)), (.int 170 (0:Nat)), (.str (Str.ofString "/claim/cut.py") (562:Nat))]), #[]⟩) ::
  (nat_lit 268, ⟨(.type "function"), none, (.func (fnO (nthS (bodyS (nthS TB 16)) 15) (Str.ofString "BytesIO.getvalue") (3:Nat) [] .none .none .none (.str (Str.ofString "io") (330:Nat)) none (.ref (267:Nat)) .none (0:Nat))), #[]⟩) ::
  (nat_lit 269, ⟨(.type "tuple"), none, (.seq #[] (0:Nat)), #[]⟩) ::
  (nat_lit 271, ⟨(.type "tuple"), none, (.seq #[(.str (Str.ofString "self") (567:Nat))] (0:Nat)), #[]⟩) ::
  (nat_lit 272, ⟨(.type "tuple"), none, (.seq #[] (0:Nat)), #[]⟩) ::
  (nat_lit 274, ⟨(.type "code"), none, (.fields #[(.str (Str.ofString "getbuffer") (564:Nat)), (.str (Str.ofString "BytesIO.getbuffer") (565:Nat)), (.str (Str.ofString "/claim/cut.py") (566:Nat)), (.int 173 (0:Nat)), (.int 1 (0:Nat)), (.int 0 (0:Nat)), (.int 0 (0:Nat)), (.int 3 (0:Nat)), (.ref (269:Nat)), (.bool true), (.int 273 (0:Nat)), (.ref (270:Nat)), .none, (.ref (271:Nat)), (.ref (272:Nat)), (.ref (273:Nat)), (.int 568 (0:Nat)), (.int 173 (0:Nat)), (.str (Str.ofString "/claim/cut.py") (569:Nat))]), #[]⟩) ::
  (nat_lit 275, ⟨(.type "function"), none, (.func (fnO (nthS (bodyS (nthS TB 16)) 16) (Str.ofString "BytesIO.getbuffer") (3:Nat) [] .none .none .none (.str (Str.ofString "io") (330:Nat)) none (.ref (274:Nat)) .none (0:Nat))), #[]⟩) ::
  (nat_lit 276, ⟨(.type "tuple"), none, (.seq #[] (0:Nat)), #[]⟩) ::
  (nat_lit 278, ⟨(.type "tuple"), none, (.seq #[(.str (Str.ofString "self") (574:Nat))] (0:Nat)), #[]⟩) ::
  (nat_lit 279, ⟨(.type "tuple"), none, (.seq #[] (0:Nat)), #[]⟩) ::
  (nat_lit 281, ⟨(.type "code"), none, (.fields #[(.str (Str.ofString "tell") (571:Nat)), (.str (Str.ofString "BytesIO.tell") (572:Nat)), (.str (Str.ofString "/claim/cut.py") (573:Nat)), (.int 176 (0:Nat)), (.int 1 (0:Nat)), (.int 0 (0:Nat)), (.int 0 (0:Nat)), (.int 3 (0:Nat)), (.ref (276:Nat)), (.bool true), (.int 273 (0:Nat)), (.ref (277:Nat)), .none, (.ref (278:Nat)), (.ref (279:Nat)), (.ref (280:Nat)), (.int 575 (0:Nat)), (.int 176 (0:Nat)), (.str (Str.ofString "/claim/cut.py") (576:Nat))]), #[]⟩) ::
  (nat_lit 282, ⟨(.type "function"), none, (.func (fnO (nthS (bodyS (nthS TB 16)) 17) (Str.ofString "BytesIO.tell") (3:Nat) [] .none .none .none (.str (Str.ofString "io") (330:Nat)) none (.ref (281:Nat)) .none (0:Nat))), #[]⟩) ::
  (nat_lit 283, ⟨(.type "tuple"), none, (.seq #[(.int 0 (578:Nat))] (0:Nat)), #[]⟩) ::
  (nat_lit 284, ⟨(.type "tuple"), none, (.seq #[] (0:Nat)), #[]⟩) ::
  (nat_lit 286, ⟨(.type "tuple"), none, (.seq #[(.str (Str.ofString "self") (582:Nat)), (.str (Str.ofString "pos") (583:Nat)), (.str (Str.ofString "whence") (584:Nat))] (0:Nat)), #[]⟩) ::
  (nat_lit 287, ⟨(.type "tuple"), none, (.seq #[] (0:Nat)), #[]⟩) ::
  (nat_lit 289, ⟨(.type "code"), none, (.fields #[(.str (Str.ofString "seek") (579:Nat)), (.str (Str.ofString "BytesIO.seek") (580:Nat)), (.str (Str.ofString "/claim/cut.py") (581:Nat)), (.int 180 (0:Nat)), (.int 3 (0:Nat)), (.int 3 (0:Nat)), (.int 0 (0:Nat)), (.int 3 (0:Nat)), (.ref (284:Nat)), (.bool true), (.int 273 (0:Nat)), (.ref (285:Nat)), .none, (.ref (286:Nat)), (.ref (287:Nat)), (.ref (288:Nat)), (.int 585 (0:Nat)), (.int 180 (0:Nat)), (.str (Str.ofString "/claim/cut.py") (586:Nat))]), #[]⟩) ::
  (nat_lit 290, ⟨(.type "function"), none, (.func (fnO (nthS (bodyS (nthS TB 16)) 18) (Str.ofString "BytesIO.seek") (3:Nat) [] (.ref (283:Nat)) .none .none (.str (Str.ofString "io") (330:Nat)) none (.ref (289:Nat)) .none (0:Nat))), #[]⟩) ::
  (nat_lit 291, ⟨(.type "tuple"), none, (.seq #[.none] (0:Nat)), #[]⟩) ::
  (nat_lit 292, ⟨(.type "tuple"), none, (.seq #[] (0:Nat)), #[]⟩) ::
  (nat_lit 294, ⟨(.type "tuple"), none, (.seq #[(.str (Str.ofString "self") (591:Nat)), (.str (Str.ofString "size") (592:Nat))] (0:Nat)), #[]⟩) ::
  (nat_lit 295, ⟨(.type "tuple"), none, (.seq #[] (0:Nat)), #[]⟩) ::
  (nat_lit 297, ⟨(.type "code"), none, (.fields #[(.str (Str.ofString "truncate") (588:Nat)), (.str (Str.ofString "BytesIO.truncate") (589:Nat)), (.str (Str.ofString "/claim/cut.py") (590:Nat)), (.int 197 (0:Nat)), (.int 2 (0:Nat)), (.int 2 (0:Nat)), (.int 0 (0:Nat)), (.int 3 (0:Nat)), (.ref (292:Nat)), (.bool true), (.int 273 (0:Nat)), (.ref (293:Nat)), .none, (.ref (294:Nat)), (.ref (295:Nat)), (.ref (296:Nat)), (.int 593 (0:Nat)), (.int 197 (0:Nat)), (.str (Str.ofString "/claim/cut.py") (594:Nat))]), #[]⟩) ::
  (nat_lit 298, ⟨(.type "function"), none, (.func (fnO (nthS (bodyS (nthS TB 16)) 19) (Str.ofString "BytesIO.truncate") (3:Nat) [] (.ref (291:Nat)) .none .none (.str (Str.ofString "io") (330:Nat)) none (.ref (297:Nat)) .none (0:Nat))), #[]⟩) ::
  (nat_lit 299, ⟨(.type "tuple"), none, (.seq #[(.int (-1) (597:Nat))] (0:Nat)), #[]⟩) ::
  (nat_lit 300, ⟨(.type "tuple"), none, (.seq #[] (0:Nat)), #[]⟩) ::
  (nat_lit 302, ⟨(.type "tuple"), none, (.seq #[(.str (Str.ofString "self") (601:Nat)), (.str (Str.ofString "size") (602:Nat)), (.str (Str.ofString "start") (603:Nat)), (.str (Str.ofString "stop") (604:Nat))] (0:Nat)), #[]⟩) ::
  (nat_lit 303, ⟨(.type "tuple"), none, (.seq #[] (0:Nat)), #[]⟩) ::
  (nat_lit 305, ⟨(.type "code"), none, (.fields #[(.str (Str.ofString "read") (598:Nat)), (.str (Str.ofString "BytesIO.read") (599:Nat)), (.str (Str.ofString "/claim/cut.py") (600:Nat)), (.int 200 (0:Nat)), (.int 2 (0:Nat)), (.int 2 (0:Nat)), (.int 0 (0:Nat)), (.int 3 (0:Nat)), (.ref (300:Nat)), (.bool true), (.int 273 (0:Nat)), (.ref (301:Nat)), .none, (.ref (302:Nat)), (.ref (303:Nat)), (.ref (304:Nat)), (.int 605 (0:Nat)), (.int 200 (0:Nat)), (.str (Str.ofString "/claim/cut.py") (606:Nat))]), #[]⟩) ::
  (nat_lit 306, ⟨(.type "function"), none, (.func (fnO (nthS (bodyS (nthS TB 16)) 20) (Str.ofString "BytesIO.read") (3:Nat) [] (.ref (299:Nat)) .none .none (.str (Str.ofString "io") (330:Nat)) none (.ref (305:Nat)) .none (0:Nat))), #[]⟩) ::
  (nat_lit 307, ⟨(.type "tuple"), none, (.seq #[(.int (-1) (609:Nat))] (0:Nat)), #[]⟩) ::
  (nat_lit 308, ⟨(.type "tuple"), none, (.seq #[] (0:Nat)), #[]⟩) ::
  (nat_lit 310, ⟨(.type "tuple"), none, (.seq #[(.str (Str.ofString "self") (613:Nat)), (.str (Str.ofString "size") (614:Nat))] (0:Nat)), #[]⟩) ::
  (nat_lit 311, ⟨(.type "tuple"), none, (.seq #[] (0:Nat)), #[]⟩) ::
  (nat_lit 313, ⟨(.type "code"), none, (.fields #[(.str (Str.ofString "read1") (610:Nat)), (.str (Str.ofString "BytesIO.read1") (611:Nat)), (.str (Str.ofString "/claim/cut.py") (612:Nat)), (.int 214 (0:Nat)), (.int 2 (0:Nat)), (.int 2 (0:Nat)), (.int 0 (0:Nat)), (.int 3 (0:Nat)), (.ref (308:Nat)), (.bool true), (.int 273 (0:Nat)), (.ref (309:Nat)), .none, (.ref (310:Nat)), (.ref (311:Nat)), (.ref (312:Nat)), (.int 615 (0:Nat)), (.int 214 (0:Nat)), (.str (Str.ofString "/claim/cut.py") (616:Nat))]), #[]⟩) ::
  (nat_lit 314, ⟨(.type "function"), none, (.func (fnO (nthS (bodyS (nthS TB 16)) 21) (Str.ofString "BytesIO.read1") (3:Nat) [] (.ref (307:Nat)) .none .none (.str (Str.ofString "io") (330:Nat)) none (.ref (313:Nat)) .none (0:Nat))), #[]⟩) ::
  (nat_lit 315, ⟨(.type "tuple"), none, (.seq #[] (0:Nat)), #[]⟩) ::
  (nat_lit 317, ⟨(.type "tuple"), none, (.seq #[(.str (Str.ofString "self") (621:Nat)), (.str (Str.ofString "buffer") (622:Nat)), (.str (Str.ofString "start") (623:Nat)), (.str (Str.ofString "n") (624:Nat))] (0:Nat)), #[]⟩) ::
  (nat_lit 318, ⟨(.type "tuple"), none, (.seq #[] (0:Nat)), #[]⟩) ::
  (nat_lit 320, ⟨(.type "code"), none, (.fields #[(.str (Str.ofString "readinto") (618:Nat)), (.str (Str.ofString "BytesIO.readinto") (619:Nat)), (.str (Str.ofString "/claim/cut.py") (620:Nat)), (.int 217 (0:Nat)), (.int 2 (0:Nat)), (.int 2 (0:Nat)), (.int 0 (0:Nat)), (.int 3 (0:Nat)), (.ref (315:Nat)), (.bool true), (.int 273 (0:Nat)), (.ref (316:Nat)), .none, (.ref (317:Nat)), (.ref (318:Nat)), (.ref (319:Nat)), (.int 625 (0:Nat)), (.int 217 (0:Nat)), (.str (Str.ofString "/claim/cut.py") (626:Nat))]), #[]⟩) ::
  (nat_lit 321, ⟨(.type "function"), none, (.func (fnO (nthS (bodyS (nthS TB 16)) 22) (Str.ofString "BytesIO.readinto") (3:Nat) [] .none .none .none (.str (Str.ofString "io") (330:Nat)) none (.ref (320:Nat)) .none (0:Nat))), #[]⟩) ::
  (nat_lit 322, ⟨(.type "tuple"), none, (.seq #[] (0:Nat)), #[]⟩) ::
  (nat_lit 324, ⟨(.type "tuple"), none, (.seq #[(.str (Str.ofString "self") (631:Nat)), (.str (Str.ofString "buffer") (632:Nat))] (0:Nat)), #[]⟩) ::
  (nat_lit 325, ⟨(.type "tuple"), none, (.seq #[] (0:Nat)), #[]⟩) ::
  (nat_lit 327, ⟨(.type "code"), none, (.fields #[(.str (Str.ofString "readinto1") (628:Nat)), (.str (Str.ofString "BytesIO.readinto1") (629:Nat)), (.str (Str.ofString "/claim/cut.py") (630:Nat)), (.int 231 (0:Nat)), (.int 2 (0:Nat)), (.int 2 (0:Nat)), (.int 0 (0:Nat)), (.int 3 (0:Nat)), (.ref (322:Nat)), (.bool true), (.int 273 (0:Nat)), (.ref (323:Nat)), .none, (.ref (324:Nat)), (.ref (325:Nat)), (.ref (326:Nat)), (.int 633 (0:Nat)), (.int 231 (0:Nat)), (.str (Str.ofString "/claim/cut.py") (634:Nat))]), #[]⟩) ::
  (nat_lit 328, ⟨(.type "function"), none, (.func (fnO (nthS (bodyS (nthS TB 16)) 23) (Str.ofString "BytesIO.readinto1") (3:Nat) [] .none .none .none (.str (Str.ofString "io") (330:Nat)) none (.ref (327:Nat)) .none (0:Nat))), #[]⟩) ::
  (nat_lit 329, ⟨(.type "tuple"), none, (.seq #[(.int (-1) (637:Nat))] (0:Nat)), #[]⟩) ::
  (nat_lit 330, ⟨(.type "tuple"), none, (.seq #[] (0:Nat)), #[]⟩) ::
  (nat_lit 332, ⟨(.type "tuple"), none, (.seq #[(.str (Str.ofString "self") (641:Nat)), (.str (Str.ofString "size") (642:Nat))] (0:Nat)), #[]⟩) ::
  (nat_lit 333, ⟨(.type "tuple"), none, (.seq #[] (0:Nat)), #[]⟩) ::
  (nat_lit 335, ⟨(.type "code"), none, (.fields #[(.str (Str.ofString "readline") (638:Nat)), (.str (Str.ofString "BytesIO.readline") (639:Nat)), (.str (Str.ofString "/claim/cut.py") (640:Nat)), (.int 234 (0:Nat)), (.int 2 (0:Nat)), (.int 2 (0:Nat)), (.int 0 (0:Nat)), (.int 3 (0:Nat)), (.ref (330:Nat)), (.bool true), (.int 273 (0:Nat)), (.ref (331:Nat)), .none, (.ref (332:Nat)), (.ref (333:Nat)), (.ref (334:Nat)), (.int 643 (0:Nat)), (.int 234 (0:Nat)), (.str (Str.ofString "/claim/cut.py") (644:Nat))]), #[]⟩) ::
  (nat_lit 336, ⟨(.type "function"), none, (.func (fnO (nthS (bodyS (nthS TB 16)) 24) (Str.ofString "BytesIO.readline") (3:Nat) [] (.ref (329:Nat)) .none .none (.str (Str.ofString "io") (330:Nat)) none (.ref (335:Nat)) .none (0:Nat))), #[]⟩) ::
  (nat_lit 337, ⟨(.type "tuple"), none, (.seq #[.none] (0:Nat)), #[]⟩) ::
  (nat_lit 338, ⟨(.type "tuple"), none, (.seq #[] (0:Nat)), #[]⟩) ::
  (nat_lit 340, ⟨(.type "tuple"), none, (.seq #[(.str (Str.ofString "self") (649:Nat)), (.str (Str.ofString "size") (650:Nat))] (0:Nat)), #[]⟩) ::
  (nat_lit 341, ⟨(.type "tuple"), none, (.seq #[] (0:Nat)), #[]⟩) ::
  (nat_lit 343, ⟨(.type "code"), none, (.fields #[(.str (Str.ofString "readlines") (646:Nat)), (.str (Str.ofString "BytesIO.readlines") (647:Nat)), (.str (Str.ofString "/claim/cut.py") (648:Nat)), (.int 241 (0:Nat)), (.int 2 (0:Nat)), (.int 2 (0:Nat)), (.int 0 (0:Nat)), (.int 3 (0:Nat)), (.ref (338:Nat)), (.bool true), (.int 273 (0:Nat)), (.ref (339:Nat)), .none, (.ref (340:Nat)), (.ref (341:Nat)), (.ref (342:Nat)), (.int 651 (0:Nat)), (.int 241 (0:Nat)), (.str (Str.ofString "/claim/cut.py") (652:Nat))]), #[]⟩) ::
  (nat_lit 344, ⟨(.type "function"), none, (.func (fnO (nthS (bodyS (nthS TB 16)) 25) (Str.ofString "BytesIO.readlines") (3:Nat) [] (.ref (337:Nat)) .none .none (.str (Str.ofString "io") (330:Nat)) none (.ref (343:Nat)) .none (0:Nat))), #[]⟩) ::
  (nat_lit 345, ⟨(.type "tuple"), none, (.seq #[] (0:Nat)), #[]⟩) ::
  (nat_lit 347, ⟨(.type "tuple"), none, (.seq #[(.str (Str.ofString "self") (657:Nat))] (0:Nat)), #[]⟩) ::
  (nat_lit 348, ⟨(.type "tuple"), none, (.seq #[] (0:Nat)), #[]⟩) ::
  (nat_lit 350, ⟨(.type "code"), none, (.fields #[(.str (Str.ofString "__iter__") (654:Nat)), (.str (Str.ofString "BytesIO.__iter__") (655:Nat)), (.str (Str.ofString "/claim/cut.py") (656:Nat)), (.int 244 (0:Nat)), (.int 1 (0:Nat)), (.int 0 (0:Nat)), (.int 0 (0:Nat)), (.int 3 (0:Nat)), (.ref (345:Nat)), (.bool true), (.int 273 (0:Nat)), (.ref (346:Nat)), .none, (.ref (347:Nat)), (.ref (348:Nat)), (.ref (349:Nat)), (.int 658 (0:Nat)), (.int 244 (0:Nat)), (.str (Str.ofString "/claim/cut.py") (659:Nat))]), #[]⟩) ::
  (nat_lit 351, ⟨(.type "function"), none, (.func (fnO (nthS (bodyS (nthS TB 16)) 26) (Str.ofString "BytesIO.__iter__") (3:Nat) [] .none .none .none (.str (Str.ofString "io") (330:Nat)) none (.ref (350:Nat)) .none (0:Nat))), #[]⟩) ::
  (nat_lit 352, ⟨(.type "tuple"), none, (.seq #[] (0:Nat)), #[]⟩) ::
  (nat_lit 354, ⟨(.type "tuple"), none, (.seq #[(.str (Str.ofString "self") (664:Nat)), (.str (Str.ofString "line") (665:Nat))] (0:Nat)), #[]⟩) ::
  (nat_lit 355, ⟨(.type "tuple"), none, (.seq #[] (0:Nat)), #[]⟩) ::
  (nat_lit 357, ⟨(.type "code"), none, (.fields #[(.str (Str.ofString "__next__") (661:Nat)), (.str (Str.ofString "BytesIO.__next__") (662:Nat)), (.str (Str.ofString "/claim/cut.py") (663:Nat)), (.int 247 (0:Nat)), (.int 1 (0:Nat)), (.int 0 (0:Nat)), (.int 0 (0:Nat)), (.int 3 (0:Nat)), (.ref (352:Nat)), (.bool true), (.int 273 (0:Nat)), (.ref (353:Nat)), .none, (.ref (354:Nat)), (.ref (355:Nat)), (.ref (356:Nat)), (.int 666 (0:Nat)), (.int 247 (0:Nat)), (.str (Str.ofString "/claim/cut.py") (667:Nat))]), #[]⟩) ::
  (nat_lit 358, ⟨(.type "function"), none, (.func (fnO (nthS (bodyS (nthS TB 16)) 27) (Str.ofString "BytesIO.__next__") (3:Nat) [] .none .none .none (.str (Str.ofString "io") (330:Nat)) none (.ref (357:Nat)) .none (0:Nat))), #[]⟩) ::
  (nat_lit 359, ⟨(.type "tuple"), none, (.seq #[] (0:Nat)), #[]⟩) ::
  (nat_lit 361, ⟨(.type "tuple"), none, (.seq #[(.str (Str.ofString "self") (672:Nat)), (.str (Str.ofString "b") (673:Nat)), (.str (Str.ofString "n") (674:Nat)), (.str (Str.ofString "start") (675:Nat))] (0:Nat)), #[]⟩) ::
  (nat_lit 362, ⟨(.type "tuple"), none, (.seq #[] (0:Nat)), #[]⟩) ::
  (nat_lit 364, ⟨(.type "code"), none, (.fields #[(.str (Str.ofString "write") (669:Nat)), (.str (Str.ofString "BytesIO.write") (670:Nat)), (.str (Str.ofString "/claim/cut.py") (671:Nat)), (.int 254 (0:Nat)), (.int 2 (0:Nat)), (.int 2 (0:Nat)), (.int 0 (0:Nat)), (.int 3 (0:Nat)), (.ref (359:Nat)), (.bool true), (.int 273 (0:Nat)), (.ref (360:Nat)), .none, (.ref (361:Nat)), (.ref (362:Nat)), (.ref (363:Nat)), (.int 676 (0:Nat)), (.int 254 (0:Nat)), (.str (Str.ofString "/claim/cut.py") (677:Nat))]), #[]⟩) ::
  (nat_lit 365, ⟨(.type "function"), none, (.func (fnO (nthS (bodyS (nthS TB 16)) 28) (Str.ofString "BytesIO.write") (3:Nat) [] .none .none .none (.str (Str.ofString "io") (330:Nat)) none (.ref (364:Nat)) .none (0:Nat))), #[]⟩) ::
  (nat_lit 366, ⟨(.type "tuple"), none, (.seq #[] (0:Nat)), #[]⟩) ::
  (nat_lit 368, ⟨(.type "tuple"), none, (.seq #[(.str (Str.ofString "self") (682:Nat)), (.str (Str.ofString "lines") (683:Nat))] (0:Nat)), #[]⟩) ::
  (nat_lit 369, ⟨(.type "tuple"), none, (.seq #[] (0:Nat)), #[]⟩) ::
  (nat_lit 371, ⟨(.type "code"), none, (.fields #[(.str (Str.ofString "writelines") (679:Nat)), (.str (Str.ofString "BytesIO.writelines") (680:Nat)), (.str (Str.ofString "/claim/cut.py") (681:Nat)), (.int 270 (0:Nat)), (.int 2 (0:Nat)), (.int 2 (0:Nat)), (.int 0 (0:Nat)), (.int 3 (0:Nat)), (.ref (366:Nat)), (.bool true), (.int 273 (0:Nat)), (.ref (367:Nat)), .none, (.ref (368:Nat)), (.ref (369:Nat)), (.ref (370:Nat)), (.int 684 (0:Nat)), (.int 270 (0:Nat)), (.str (Str.ofString "/claim/cut.py") (685:Nat))]), #[]⟩) ::
  (nat_lit 372, ⟨(.type "function"), none, (.func (fnO (nthS (bodyS (nthS TB 16)) 29) (Str.ofString "BytesIO.writelines") (3:Nat) [] .none .none .none (.str (Str.ofString "io") (330:Nat)) none (.ref (371:Nat)) .none (0:Nat))), #[]⟩) ::
  (nat_lit 373, ⟨(.type "tuple"), none, (.seq #[] (0:Nat)), #[]⟩) ::
  (nat_lit 375, ⟨(.type "tuple"), none, (.seq #[(.str (Str.ofString "self") (690:Nat))] (0:Nat)), #[]⟩) ::
  (nat_lit 376, ⟨(.type "tuple"), none, (.seq #[] (0:Nat)), #[]⟩) ::
  (nat_lit 378, ⟨(.type "code"), none, (.fields #[(.str (Str.ofString "__repr__") (687:Nat)), (.str (Str.ofString "BytesIO.__repr__") (688:Nat)), (.str (Str.ofString "/claim/cut.py") (689:Nat)), (.int 273 (0:Nat)), (.int 1 (0:Nat)), (.int 0 (0:Nat)), (.int 0 (0:Nat)), (.int 3 (0:Nat)), (.ref (373:Nat)), (.bool true), (.int 273 (0:Nat)), (.ref (374:Nat)), .none, (.ref (375:Nat)), (.ref (376:Nat)), (.ref (377:Nat)), (.int 691 (0:Nat)), (.int 273 (0:Nat)), (.str (Str.ofString "/claim/cut.py") (692:Nat))]), #[]⟩) ::
  (nat_lit 379, ⟨(.type "function"), none, (.func (fnO (nthS (bodyS (nthS TB 16)) 30) (Str.ofString "BytesIO.__repr__") (3:Nat) [] .none .none .none (.str (Str.ofString "io") (330:Nat)) none (.ref (378:Nat)) .none (0:Nat))), #[]⟩) ::
  (nat_lit 380, ⟨(.type "tuple"), none, (.seq #[(.str (Str.ofString "__buf") (694:Nat)), (.str (Str.ofString "__pos") (695:Nat))] (0:Nat)), #[]⟩) ::
  (nat_lit 381, ⟨(.type "dict"), none, (.dict #[⟨PyData.keyHash P (Str.ofString "__module__"), (.str (Str.ofString "__module__") (445:Nat)), (.str (Str.ofString "_io") (450:Nat))⟩, ⟨PyData.keyHash P (Str.ofString "__firstlineno__"), (.str (Str.ofString "__firstlineno__") (449:Nat)), (.int 105 (448:Nat))⟩, ⟨PyData.keyHash P (Str.ofString "__init__"), (.str (Str.ofString "__init__") (459:Nat)), (.ref (169:Nat))⟩, ⟨PyData.keyHash P (Str.ofString "_BytesIO__check"), (.str (Str.ofString "_BytesIO__check") (466:Nat)), (.ref (176:Nat))⟩, ⟨PyData.keyHash P (Str.ofString "_BytesIO__line"), (.str (Str.ofString "_BytesIO__line") (477:Nat)), (.ref (183:Nat))⟩, ⟨PyData.keyHash P (Str.ofString "closed"), (.str (Str.ofString "closed") (485:Nat)), (.ref (191:Nat))⟩, ⟨PyData.keyHash P (Str.ofString "close"), (.str (Str.ofString "close") (492:Nat)), (.ref (198:Nat))⟩, ⟨PyData.keyHash P (Str.ofString "__enter__"), (.str (Str.ofString "__enter__") (499:Nat)), (.ref (205:Nat))⟩, ⟨PyData.keyHash P (Str.ofString "__exit__"), (.str (Str.ofString "__exit__") (507:Nat)), (.ref (212:Nat))⟩, ⟨PyData.keyHash P (Str.ofString "readable"), (.str (Str.ofString "readable") (514:Nat)), (.ref (219:Nat))⟩, ⟨PyData.keyHash P (Str.ofString "writable"), (.str (Str.ofString "writable") (521:Nat)), (.ref (226:Nat))⟩, ⟨PyData.keyHash P (Str.ofString "seekable"), (.str (Str.ofString "seekable") (528:Nat)), (.ref (233:Nat))⟩, ⟨PyData.keyHash P (Str.ofString "isatty"), (.str (Str.ofString "isatty") (535:Nat)), (.ref (240:Nat))⟩, ⟨PyData.keyHash P (Str.ofString "flush"), (.str (Str.ofString "flush") (542:Nat)), (.ref (247:Nat))⟩, ⟨PyData.keyHash P (Str.ofString "fileno"), (.str (Str.ofString "fileno") (549:Nat)), (.ref (254:Nat))⟩, ⟨PyData.keyHash P (Str.ofString "detach"), (.str (Str.ofString "detach") (556:Nat)), (.ref (261:Nat))⟩, ⟨PyData.keyHash P (Str.ofString "getvalue"), (.str (Str.ofString "getvalue") (563:Nat)), (.ref (268:Nat))⟩, ⟨PyData.keyHash P (Str.ofString "getbuffer"), (.str (Str.ofString "getbuffer") (570:Nat)), (.ref (275:Nat))⟩, ⟨PyData.keyHash P (Str.ofString "tell"), (.str (Str.ofString "tell") (577:Nat)), (.ref (282:Nat))⟩, ⟨PyData.keyHash P (Str.ofString "seek"), (.str (Str.ofString "seek") (587:Nat)), (.ref (290:Nat))⟩, ⟨PyData.keyHash P (Str.ofString "truncate"), (.str (Str.ofString "truncate") (595:Nat)), (.ref (298:Nat))⟩, ⟨PyData.keyHash P (Str.ofString "read"), (.str (Str.ofString "read") (607:Nat)), (.ref (306:Nat))⟩, ⟨PyData.keyHash P (Str.ofString "read1"), (.str (Str.ofString "read1") (617:Nat)), (.ref (314:Nat))⟩, ⟨PyData.keyHash P (Str.ofString "readinto"), (.str (Str.ofString "readinto") (627:Nat)), (.ref (321:Nat))⟩, ⟨PyData.keyHash P (Str.ofString "readinto1"), (.str (Str.ofString "readinto1") (635:Nat)), (.ref (328:Nat))⟩, ⟨PyData.keyHash P (Str.ofString "readline"), (.str (Str.ofString "readline") (645:Nat)), (.ref (336:Nat))⟩, ⟨PyData.keyHash P (Str.ofString "readlines"), (.str (Str.ofString "readlines") (653:Nat)), (.ref (344:Nat))⟩, ⟨PyData.keyHash P (Str.ofString "__iter__"), (.str (Str.ofString "__iter__") (660:Nat)), (.ref (351:Nat))⟩, ⟨PyData.keyHash P (Str.ofString "__next__"), (.str (Str.ofString "__next__") (668:Nat)), (.ref (358:Nat))⟩, ⟨PyData.keyHash P (Str.ofString "write"), (.str (Str.ofString "write") (678:Nat)), (.ref (365:Nat))⟩, ⟨PyData.keyHash P (Str.ofString "writelines"), (.str (Str.ofString "writelines") (686:Nat)), (.ref (372:Nat))⟩, ⟨PyData.keyHash P (Str.ofString "__repr__"), (.str (Str.ofString "__repr__") (693:Nat)), (.ref (379:Nat))⟩, ⟨PyData.keyHash P (Str.ofString "__static_attributes__"), (.str (Str.ofString "__static_attributes__") (696:Nat)), (.ref (380:Nat))⟩, ⟨PyData.keyHash P (Str.ofString "__doc__"), (.str (Str.ofString "__doc__") (697:Nat)), .none⟩] (2:Nat)), #[]⟩) ::
  (nat_lit 382, ⟨(.type "type"), none, (.cls ⟨(Str.ofString "BytesIO"), [(.ref (140:Nat))], [(.ref (382:Nat)), (.ref (140:Nat)), (.ref (125:Nat)), (.type "object")], (381:Nat), (Str.ofString "BytesIO"), true, [], [], false, none, false⟩), #[(some (.ref (155:Nat))), none, (some (.str (Str.ofString "BytesIO") (438:Nat))), (some (.str (Str.ofString "BytesIO") (446:Nat))), (some .none), (some (.bool true))]⟩) ::
  (nat_lit 385, ⟨(.type "tuple"), none, (.seq #[(.ref (152:Nat))] (0:Nat)), #[]⟩) ::
  (nat_lit 392, ⟨(.type "tuple"), none, (.seq #[(.str (Str.ofString "") (714:Nat)), (.str (Str.ofString "\n") (715:Nat))] (0:Nat)), #[]⟩) ::
  (nat_lit 393, ⟨(.type "tuple"), none, (.seq #[] (0:Nat)), #[]⟩) ::
  (nat_lit 395, ⟨(.type "tuple"), none, (.seq #[(.str (Str.ofString "self") (719:Nat)), (.str (Str.ofString "initial_value") (720:Nat)), (.str (Str.ofString "newline") (721:Nat))] (0:Nat)), #[]⟩) ::
  (nat_lit 396, ⟨(.type "tuple"), none, (.seq #[] (0:Nat)), #[]⟩) ::
  (nat_lit 398, ⟨(.type "code"), none, (.fields #[(.str (Str.ofString "__init__") (716:Nat)), (.str (Str.ofString "StringIO.__init__") (717:Nat)), (.str (Str.ofString "/claim/cut.py") (718:Nat)), (.int 278 (0:Nat)), (.int 3 (0:Nat)), (.int 0 (0:Nat)), (.int 0 (0:Nat)), (.int 3 (0:Nat)), (.ref (393:Nat)), (.bool true), (.int 273 (0:Nat)), (.ref (394:Nat)), .none, (.ref (395:Nat)), (.ref (396:Nat)), (.ref (397:Nat)), (.int 722 (0:Nat)), (.int 278 (0:Nat)), (.str (Str.ofString "/claim/cut.py") (723:Nat))]), #[]⟩) ::
  (nat_lit 399, ⟨(.type "function"), none, (.func (fnO (nthS (bodyS (nthS TB 17)) 1) (Str.ofString "StringIO.__init__") (3:Nat) [] (.ref (392:Nat)) .none .none (.str (Str.ofString "io") (330:Nat)) none (.ref (398:Nat)) .none (0:Nat))), #[]⟩) ::
  (nat_lit 400, ⟨(.type "tuple"), none, (.seq #[] (0:Nat)), #[]⟩) ::
  (nat_lit 402, ⟨(.type "tuple"), none, (.seq #[(.str (Str.ofString "self") (728:Nat)), (.str (Str.ofString "s") (729:Nat)), (.str (Str.ofString "newline") (730:Nat))] (0:Nat)), #[]⟩) ::
  (nat_lit 403, ⟨(.type "tuple"), none, (.seq #[] (0:Nat)), #[]⟩) ::
  (nat_lit 405, ⟨(.type "code"), none, (.fields #[(.str (Str.ofString "__translated") (725:Nat)), (.str (Str.ofString "StringIO.__translated") (726:Nat)), (.str (Str.ofString "/claim/cut.py") (727:Nat)), (.int 291 (0:Nat)), (.int 2 (0:Nat)), (.int 0 (0:Nat)), (.int 0 (0:Nat)), (.int 3 (0:Nat)), (.ref (400:Nat)), (.bool true), (.int 273 (0:Nat)), (.ref (401:Nat)), .none, (.ref (402:Nat)), (.ref (403:Nat)), (.ref (404:Nat)), (.int 731 (0:Nat)), (.int 291 (0:Nat)), (.str (Str.ofString "/claim/cut.py") (732:Nat))]), #[]⟩) ::
  (nat_lit 406, ⟨(.type "function"), none, (.func (fnO (nthS (bodyS (nthS TB 17)) 2) (Str.ofString "StringIO.__translated") (3:Nat) [] .none .none .none (.str (Str.ofString "io") (330:Nat)) none (.ref (405:Nat)) .none (0:Nat))), #[]⟩) ::
  (nat_lit 407, ⟨(.type "tuple"), none, (.seq #[] (0:Nat)), #[]⟩) ::
  (nat_lit 409, ⟨(.type "tuple"), none, (.seq #[(.str (Str.ofString "self") (737:Nat))] (0:Nat)), #[]⟩) ::
  (nat_lit 410, ⟨(.type "tuple"), none, (.seq #[] (0:Nat)), #[]⟩) ::
  (nat_lit 412, ⟨(.type "code"), none, (.fields #[(.str (Str.ofString "__check") (734:Nat)), (.str (Str.ofString "StringIO.__check") (735:Nat)), (.str (Str.ofString "/claim/cut.py") (736:Nat)), (.int 299 (0:Nat)), (.int 1 (0:Nat)), (.int 0 (0:Nat)), (.int 0 (0:Nat)), (.int 3 (0:Nat)), (.ref (407:Nat)), (.bool true), (.int 273 (0:Nat)), (.ref (408:Nat)), .none, (.ref (409:Nat)), (.ref (410:Nat)), (.ref (411:Nat)), (.int 738 (0:Nat)), (.int 299 (0:Nat)), (.str (Str.ofString "/claim/cut.py") (739:Nat))]), #[]⟩) ::
  (nat_lit 413, ⟨(.type "function"), none, (.func (fnO (nthS (bodyS (nthS TB 17)) 3) (Str.ofString "StringIO.__check") (3:Nat) [] .none .none .none (.str (Str.ofString "io") (330:Nat)) none (.ref (412:Nat)) .none (0:Nat))), #[]⟩) ::
  (nat_lit 414, ⟨(.type "tuple"), none, (.seq #[] (0:Nat)), #[]⟩) ::
  (nat_lit 416, ⟨(.type "tuple"), none, (.seq #[(.str (Str.ofString "self") (744:Nat))] (0:Nat)), #[]⟩) ::
  (nat_lit 417, ⟨(.type "tuple"), none, (.seq #[] (0:Nat)), #[]⟩) ::
  (nat_lit 419, ⟨(.type "code"), none, (.fields #[(.str (Str.ofString "__check_dot") (741:Nat)), (.str (Str.ofString "StringIO.__check_dot") (742:Nat)), (.str (Str.ofString "/claim/cut.py") (743:Nat)), (.int 303 (0:Nat)), (.int 1 (0:Nat)), (.int 0 (0:Nat)), (.int 0 (0:Nat)), (.int 3 (0:Nat)), (.ref (414:Nat)), (.bool true), (.int 273 (0:Nat)), (.ref (415:Nat)), .none, (.ref (416:Nat)), (.ref (417:Nat)), (.ref (418:Nat)), (.int 745 (0:Nat)), (.int 303 (0:Nat)), (.str (Str.ofString "/claim/cut.py") (746:Nat))]), #[]⟩) ::
  (nat_lit 420, ⟨(.type "function"), none, (.func (fnO (nthS (bodyS (nthS TB 17)) 4) (Str.ofString "StringIO.__check_dot") (3:Nat) [] .none .none .none (.str (Str.ofString "io") (330:Nat)) none (.ref (419:Nat)) .none (0:Nat))), #[]⟩) ::
  (nat_lit 421, ⟨(.type "tuple"), none, (.seq #[] (0:Nat)), #[]⟩) ::
  (nat_lit 423, ⟨(.type "tuple"), none, (.seq #[(.str (Str.ofString "self") (751:Nat)), (.str (Str.ofString "limit") (752:Nat)), (.str (Str.ofString "start") (753:Nat)), (.str (Str.ofString "stop") (754:Nat)), (.str (Str.ofString "cut") (755:Nat)), (.str (Str.ofString "newline") (756:Nat)), (.str (Str.ofString "i") (757:Nat)), (.str (Str.ofString "j") (758:Nat)), (.str (Str.ofString "end") (759:Nat))] (0:Nat)), #[]⟩) ::
  (nat_lit 424, ⟨(.type "tuple"), none, (.seq #[] (0:Nat)), #[]⟩) ::
  (nat_lit 426, ⟨(.type "code"), none, (.fields #[(.str (Str.ofString "__line") (748:Nat)), (.str (Str.ofString "StringIO.__line") (749:Nat)), (.str (Str.ofString "/claim/cut.py") (750:Nat)), (.int 307 (0:Nat)), (.int 2 (0:Nat)), (.int 0 (0:Nat)), (.int 0 (0:Nat)), (.int 3 (0:Nat)), (.ref (421:Nat)), (.bool true), (.int 273 (0:Nat)), (.ref (422:Nat)), .none, (.ref (423:Nat)), (.ref (424:Nat)), (.ref (425:Nat)), (.int 760 (0:Nat)), (.int 307 (0:Nat)), (.str (Str.ofString "/claim/cut.py") (761:Nat))]), #[]⟩) ::
  (nat_lit 427, ⟨(.type "function"), none, (.func (fnO (nthS (bodyS (nthS TB 17)) 5) (Str.ofString "StringIO.__line") (3:Nat) [] .none .none .none (.str (Str.ofString "io") (330:Nat)) none (.ref (426:Nat)) .none (0:Nat))), #[]⟩) ::
  (nat_lit 428, ⟨(.type "tuple"), none, (.seq #[] (0:Nat)), #[]⟩) ::
  (nat_lit 430, ⟨(.type "tuple"), none, (.seq #[(.str (Str.ofString "self") (766:Nat))] (0:Nat)), #[]⟩) ::
  (nat_lit 431, ⟨(.type "tuple"), none, (.seq #[] (0:Nat)), #[]⟩) ::
  (nat_lit 433, ⟨(.type "code"), none, (.fields #[(.str (Str.ofString "closed") (763:Nat)), (.str (Str.ofString "StringIO.closed") (764:Nat)), (.str (Str.ofString "/claim/cut.py") (765:Nat)), (.int 339 (0:Nat)), (.int 1 (0:Nat)), (.int 0 (0:Nat)), (.int 0 (0:Nat)), (.int 3 (0:Nat)), (.ref (428:Nat)), (.bool true), (.int 273 (0:Nat)), (.ref (429:Nat)), .none, (.ref (430:Nat)), (.ref (431:Nat)), (.ref (432:Nat)), (.int 767 (0:Nat)), (.int 339 (0:Nat)), (.str (Str.ofString "/claim/cut.py") (768:Nat))]), #[]⟩) ::
  (nat_lit 434, ⟨(.type "function"), none, (.func (fnO (nthS (bodyS (nthS TB 17)) 6) (Str.ofString "StringIO.closed") (3:Nat) [] .none .none .none (.str (Str.ofString "io") (330:Nat)) none (.ref (433:Nat)) .none (0:Nat))), #[]⟩) ::
  (nat_lit 435, ⟨(.type "property"), none, (.fields #[(.ref (434:Nat)), .none, .none, .none, (.str (Str.ofString "closed") (770:Nat)), (.bool false)]), #[]⟩) ::
  (nat_lit 436, ⟨(.type "tuple"), none, (.seq #[] (0:Nat)), #[]⟩) ::
  (nat_lit 438, ⟨(.type "tuple"), none, (.seq #[(.str (Str.ofString "self") (774:Nat))] (0:Nat)), #[]⟩) ::
  (nat_lit 439, ⟨(.type "tuple"), none, (.seq #[] (0:Nat)), #[]⟩) ::
  (nat_lit 441, ⟨(.type "code"), none, (.fields #[(.str (Str.ofString "line_buffering") (771:Nat)), (.str (Str.ofString "StringIO.line_buffering") (772:Nat)), (.str (Str.ofString "/claim/cut.py") (773:Nat)), (.int 343 (0:Nat)), (.int 1 (0:Nat)), (.int 0 (0:Nat)), (.int 0 (0:Nat)), (.int 3 (0:Nat)), (.ref (436:Nat)), (.bool true), (.int 273 (0:Nat)), (.ref (437:Nat)), .none, (.ref (438:Nat)), (.ref (439:Nat)), (.ref (440:Nat)), (.int 775 (0:Nat)), (.int 343 (0:Nat)), (.str (Str.ofString "/claim/cut.py") (776:Nat))]), #[]⟩) ::
  (nat_lit 442, ⟨(.type "function"), none, (.func (fnO (nthS (bodyS (nthS TB 17)) 7) (Str.ofString "StringIO.line_buffering") (3:Nat) [] .none .none .none (.str (Str.ofString "io") (330:Nat)) none (.ref (441:Nat)) .none (0:Nat))), #[]⟩) ::
  (nat_lit 443, ⟨(.type "property"), none, (.fields #[(.ref (442:Nat)), .none, .none, .none, (.str (Str.ofString "line_buffering") (778:Nat)), (.bool false)]), #[]⟩) ::
  (nat_lit 444, ⟨(.type "tuple"), none, (.seq #[] (0:Nat)), #[]⟩) ::
  (nat_lit 446, ⟨(.type "tuple"), none, (.seq #[(.str (Str.ofString "self") (782:Nat))] (0:Nat)), #[]⟩) ::
  (nat_lit 447, ⟨(.type "tuple"), none, (.seq #[] (0:Nat)), #[]⟩) ::
  (nat_lit 449, ⟨(.type "code"), none, (.fields #[(.str (Str.ofString "newlines") (779:Nat)), (.str (Str.ofString "StringIO.newlines") (780:Nat)), (.str (Str.ofString "/claim/cut.py") (781:Nat)), (.int 347 (0:Nat)), (.int 1 (0:Nat)), (.int 0 (0:Nat)), (.int 0 (0:Nat)), (.int 3 (0:Nat)), (.ref (444:Nat)), (.bool true), (.int 273 (0:Nat)), (.ref (445:Nat)), .none, (.ref (446:Nat)), (.ref (447:Nat)), (.ref (448:Nat)), (.int 783 (0:Nat)), (.int 347 (0:Nat)), (.str (Str.ofString "/claim/cut.py") (784:Nat))]), #[]⟩) ::
  (nat_lit 450, ⟨(.type "function"), none, (.func (fnO (nthS (bodyS (nthS TB 17)) 8) (Str.ofString "StringIO.newlines") (3:Nat) [] .none .none .none (.str (Str.ofString "io") (330:Nat)) none (.ref (449:Nat)) .none (0:Nat))), #[]⟩) ::
  (nat_lit 451, ⟨(.type "property"), none, (.fields #[(.ref (450:Nat)), .none, .none, .none, (.str (Str.ofString "newlines") (786:Nat)), (.bool false)]), #[]⟩) ::
  (nat_lit 452, ⟨(.type "tuple"), none, (.seq #[] (0:Nat)), #[]⟩) ::
  (nat_lit 454, ⟨(.type "tuple"), none, (.seq #[(.str (Str.ofString "self") (790:Nat))] (0:Nat)), #[]⟩) ::
  (nat_lit 455, ⟨(.type "tuple"), none, (.seq #[] (0:Nat)), #[]⟩) ::
  (nat_lit 457, ⟨(.type "code"), none, (.fields #[(.str (Str.ofString "encoding") (787:Nat)), (.str (Str.ofString "StringIO.encoding") (788:Nat)), (.str (Str.ofString "/claim/cut.py") (789:Nat)), (.int 351 (0:Nat)), (.int 1 (0:Nat)), (.int 0 (0:Nat)), (.int 0 (0:Nat)), (.int 3 (0:Nat)), (.ref (452:Nat)), (.bool true), (.int 273 (0:Nat)), (.ref (453:Nat)), .none, (.ref (454:Nat)), (.ref (455:Nat)), (.ref (456:Nat)), (.int 791 (0:Nat)), (.int 351 (0:Nat)), (.str (Str.ofString "/claim/cut.py") (792:Nat))]), #[]⟩) ::
  (nat_lit 458, ⟨(.type "function"), none, (.func (fnO (nthS (bodyS (nthS TB 17)) 9) (Str.ofString "StringIO.encoding") (3:Nat) [] .none .none .none (.str (Str.ofString "io") (330:Nat)) none (.ref (457:Nat)) .none (0:Nat))), #[]⟩) ::
  (nat_lit 459, ⟨(.type "property"), none, (.fields #[(.ref (458:Nat)), .none, .none, .none, (.str (Str.ofString "encoding") (794:Nat)), (.bool false)]), #[]⟩) ::
  (nat_lit 460, ⟨(.type "tuple"), none, (.seq #[] (0:Nat)), #[]⟩) ::
  (nat_lit 462, ⟨(.type "tuple"), none, (.seq #[(.str (Str.ofString "self") (798:Nat))] (0:Nat)), #[]⟩) ::
  (nat_lit 463, ⟨(.type "tuple"), none, (.seq #[] (0:Nat)), #[]⟩) ::
  (nat_lit 465, ⟨(.type "code"), none, (.fields #[(.str (Str.ofString "errors") (795:Nat)), (.str (Str.ofString "StringIO.errors") (796:Nat)), (.str (Str.ofString "/claim/cut.py") (797:Nat)), (.int 355 (0:Nat)), (.int 1 (0:Nat)), (.int 0 (0:Nat)), (.int 0 (0:Nat)), (.int 3 (0:Nat)), (.ref (460:Nat)), (.bool true), (.int 273 (0:Nat)), (.ref (461:Nat)), .none, (.ref (462:Nat)), (.ref (463:Nat)), (.ref (464:Nat)), (.int 799 (0:Nat)), (.int 355 (0:Nat)), (.str (Str.ofString "/claim/cut.py") (800:Nat))]), #[]⟩) ::
  (nat_lit 466, ⟨(.type "function"), none, (.func (fnO (nthS (bodyS (nthS TB 17)) 10) (Str.ofString "StringIO.errors") (3:Nat) [] .none .none .none (.str (Str.ofString "io") (330:Nat)) none (.ref (465:Nat)) .none (0:Nat))), #[]⟩) ::
  (nat_lit 467, ⟨(.type "property"), none, (.fields #[(.ref (466:Nat)), .none, .none, .none, (.str (Str.ofString "errors") (802:Nat)), (.bool false)]), #[]⟩) ::
  (nat_lit 468, ⟨(.type "tuple"), none, (.seq #[] (0:Nat)), #[]⟩) ::
  (nat_lit 470, ⟨(.type "tuple"), none, (.seq #[(.str (Str.ofString "self") (806:Nat))] (0:Nat)), #[]⟩) ::
  (nat_lit 471, ⟨(.type "tuple"), none, (.seq #[] (0:Nat)), #[]⟩) ::
  (nat_lit 473, ⟨(.type "code"), none, (.fields #[(.str (Str.ofString "close") (803:Nat)), (.str (Str.ofString "StringIO.close") (804:Nat)), (.str (Str.ofString "/claim/cut.py") (805:Nat)), (.int 359 (0:Nat)), (.int 1 (0:Nat)), (.int 0 (0:Nat)), (.int 0 (0:Nat)), (.int 3 (0:Nat)), (.ref (468:Nat)), (.bool true), (.int 273 (0:Nat)), (.ref (469:Nat)), .none, (.ref (470:Nat)), (.ref (471:Nat)), (.ref (472:Nat)), (.int 807 (0:Nat)), (.int 359 (0:Nat)), (.str (Str.ofString "/claim/cut.py") (808:Nat))]), #[]⟩) ::
  (nat_lit 474, ⟨(.type "function"), none, (.func (fnO (nthS (bodyS (nthS TB 17)) 11) (Str.ofString "StringIO.close") (3:Nat) [] .none .none .none (.str (Str.ofString "io") (330:Nat)) none (.ref (473:Nat)) .none (0:Nat))), #[]⟩) ::
  (nat_lit 475, ⟨(.type "tuple"), none, (.seq #[] (0:Nat)), #[]⟩) ::
  (nat_lit 477, ⟨(.type "tuple"), none, (.seq #[(.str (Str.ofString "self") (813:Nat))] (0:Nat)), #[]⟩) ::
  (nat_lit 478, ⟨(.type "tuple"), none, (.seq #[] (0:Nat)), #[]⟩) ::
  (nat_lit 480, ⟨(.type "code"), none, (.fields #[(.str (Str.ofString "__enter__") (810:Nat)), (.str (Str.ofString "StringIO.__enter__") (811:Nat)), (.str (Str.ofString "/claim/cut.py") (812:Nat)), (.int 362 (0:Nat)), (.int 1 (0:Nat)), (.int 0 (0:Nat)), (.int 0 (0:Nat)), (.int 3 (0:Nat)), (.ref (475:Nat)), (.bool true), (.int 273 (0:Nat)), (.ref (476:Nat)), .none, (.ref (477:Nat)), (.ref (478:Nat)), (.ref (479:Nat)), (.int 814 (0:Nat)), (.int 362 (0:Nat)), (.str (Str.ofString "/claim/cut.py") (815:Nat))]), #[]⟩) ::
  (nat_lit 481, ⟨(.type "function"), none, (.func (fnO (nthS (bodyS (nthS TB 17)) 12) (Str.ofString "StringIO.__enter__") (3:Nat) [] .none .none .none (.str (Str.ofString "io") (330:Nat)) none (.ref (480:Nat)) .none (0:Nat))), #[]⟩) ::
  (nat_lit 482, ⟨(.type "tuple"), none, (.seq #[] (0:Nat)), #[]⟩) ::
  (nat_lit 484, ⟨(.type "tuple"), none, (.seq #[(.str (Str.ofString "self") (820:Nat)), (.str (Str.ofString "args") (821:Nat))] (0:Nat)), #[]⟩) ::
  (nat_lit 485, ⟨(.type "tuple"), none, (.seq #[] (0:Nat)), #[]⟩) ::
  (nat_lit 487, ⟨(.type "code"), none, (.fields #[(.str (Str.ofString "__exit__") (817:Nat)), (.str (Str.ofString "StringIO.__exit__") (818:Nat)), (.str (Str.ofString "/claim/cut.py") (819:Nat)), (.int 366 (0:Nat)), (.int 1 (0:Nat)), (.int 0 (0:Nat)), (.int 0 (0:Nat)), (.int 7 (0:Nat)), (.ref (482:Nat)), (.bool true), (.int 273 (0:Nat)), (.ref (483:Nat)), .none, (.ref (484:Nat)), (.ref (485:Nat)), (.ref (486:Nat)), (.int 822 (0:Nat)), (.int 366 (0:Nat)), (.str (Str.ofString "/claim/cut.py") (823:Nat))]), #[]⟩) ::
  (nat_lit 488, ⟨(.type "function"), none, (.func (fnO (nthS (bodyS (nthS TB 17)) 13) (Str.ofString "StringIO.__exit__") (3:Nat) [] .none .none .none (.str (Str.ofString "io") (330:Nat)) none (.ref (487:Nat)) .none (0:Nat))), #[]⟩) ::
  (nat_lit 489, ⟨(.type "tuple"), none, (.seq #[] (0:Nat)), #[]⟩) ::
  (nat_lit 491, ⟨(.type "tuple"), none, (.seq #[(.str (Str.ofString "self") (828:Nat))] (0:Nat)), #[]⟩) ::
  (nat_lit 492, ⟨(.type "tuple"), none, (.seq #[] (0:Nat)), #[]⟩) ::
  (nat_lit 494, ⟨(.type "code"), none, (.fields #[(.str (Str.ofString "readable") (825:Nat)), (.str (Str.ofString "StringIO.readable") (826:Nat)), (.str (Str.ofString "/claim/cut.py") (827:Nat)), (.int 369 (0:Nat)), (.int 1 (0:Nat)), (.int 0 (0:Nat)), (.int 0 (0:Nat)), (.int 3 (0:Nat)), (.ref (489:Nat)), (.bool true), (.int 273 (0:Nat)), (.ref (490:Nat)), .none, (.ref (491:Nat)), (.ref (492:Nat)), (.ref (493:Nat)), (.int 829 (0:Nat)), (.int 369 (0:Nat)), (.str (Str.ofString "/claim/cut.py") (830:Nat))]), #[]⟩) ::
  (nat_lit 495, ⟨(.type "function"), none, (.func (fnO (nthS (bodyS (nthS TB 17)) 14) (Str.ofString "StringIO.readable") (3:Nat) [] .none .none .none (.str (Str.ofString "io") (330:Nat)) none (.ref (494:Nat)) .none (0:Nat))), #[]⟩) ::
  (nat_lit 496, ⟨(.type "tuple"), none, (.seq #[] (0:Nat)), #[]⟩) ::
  (nat_lit 498, ⟨(.type "tuple"), none, (.seq #[(.str (Str.ofString "self") (835:Nat))] (0:Nat)), #[]⟩) ::
  (nat_lit 499, ⟨(.type "tuple"), none, (.seq #[] (0:Nat)), #[]⟩) ::
  (nat_lit 501, ⟨(.type "code"), none, (.fields #[(.str (Str.ofString "writable") (832:Nat)), (.str (Str.ofString "StringIO.writable") (833:Nat)), (.str (Str.ofString "/claim/cut.py") (834:Nat)), (.int 373 (0:Nat)), (.int 1 (0:Nat)), (.int 0 (0:Nat)), (.int 0 (0:Nat)), (.int 3 (0:Nat)), (.ref (496:Nat)), (.bool true), (.int 273 (0:Nat)), (.ref (497:Nat)), .none, (.ref (498:Nat)), (.ref (499:Nat)), (.ref (500:Nat)), (.int 836 (0:Nat)), (.int 373 (0:Nat)), (.str (Str.ofString "/claim/cut.py") (837:Nat))]), #[]⟩) ::
  (nat_lit 502, ⟨(.type "function"), none, (.func (fnO (nthS (bodyS (nthS TB 17)) 15) (Str.ofString "StringIO.writable") (3:Nat) [] .none .none .none (.str (Str.ofString "io") (330:Nat)) none (.ref (501:Nat)) .none (0:Nat))), #[]⟩) ::
  (nat_lit 503, ⟨(.type "tuple"), none, (.seq #[] (0:Nat)), #[]⟩) ::
  (nat_lit 505, ⟨(.type "tuple"), none, (.seq #[(.str (Str.ofString "self") (842:Nat))] (0:Nat)), #[]⟩) ::
  (nat_lit 506, ⟨(.type "tuple"), none, (.seq #[] (0:Nat)), #[]⟩) ::
  (nat_lit 508, ⟨(.type "code"), none, (.fields #[(.str (Str.ofString "seekable") (839:Nat)), (.str (Str.ofString "StringIO.seekable") (840:Nat)), (.str (Str.ofString "/claim/cut.py") (841:Nat)), (.int 377 (0:Nat)), (.int 1 (0:Nat)), (.int 0 (0:Nat)), (.int 0 (0:Nat)), (.int 3 (0:Nat)), (.ref (503:Nat)), (.bool true), (.int 273 (0:Nat)), (.ref (504:Nat)), .none, (.ref (505:Nat)), (.ref (506:Nat)), (.ref (507:Nat)), (.int 843 (0:Nat)), (.int 377 (0:Nat)), (.str (Str.ofString "/claim/cut.py") (844:Nat))]), #[]⟩) ::
  (nat_lit 509, ⟨(.type "function"), none, (.func (fnO (nthS (bodyS (nthS TB 17)) 16) (Str.ofString "StringIO.seekable") (3:Nat) [] .none .none .none (.str (Str.ofString "io") (330:Nat)) none (.ref (508:Nat)) .none (0:Nat))), #[]⟩) ::
  (nat_lit 510, ⟨(.type "tuple"), none, (.seq #[] (0:Nat)), #[]⟩) ::
  (nat_lit 512, ⟨(.type "tuple"), none, (.seq #[(.str (Str.ofString "self") (849:Nat))] (0:Nat)), #[]⟩) ::
  (nat_lit 513, ⟨(.type "tuple"), none, (.seq #[] (0:Nat)), #[]⟩) ::
  (nat_lit 515, ⟨(.type "code"), none, (.fields #[(.str (Str.ofString "isatty") (846:Nat)), (.str (Str.ofString "StringIO.isatty") (847:Nat)), (.str (Str.ofString "/claim/cut.py") (848:Nat)), (.int 381 (0:Nat)), (.int 1 (0:Nat)), (.int 0 (0:Nat)), (.int 0 (0:Nat)), (.int 3 (0:Nat)), (.ref (510:Nat)), (.bool true), (.int 273 (0:Nat)), (.ref (511:Nat)), .none, (.ref (512:Nat)), (.ref (513:Nat)), (.ref (514:Nat)), (.int 850 (0:Nat)), (.int 381 (0:Nat)), (.str (Str.ofString "/claim/cut.py") (851:Nat))]), #[]⟩) ::
  (nat_lit 516, ⟨(.type "function"), none, (.func (fnO (nthS (bodyS (nthS TB 17)) 17) (Str.ofString "StringIO.isatty") (3:Nat) [] .none .none .none (.str (Str.ofString "io") (330:Nat)) none (.ref (515:Nat)) .none (0:Nat))), #[]⟩) ::
  (nat_lit 517, ⟨(.type "tuple"), none, (.seq #[] (0:Nat)), #[]⟩) ::
  (nat_lit 519, ⟨(.type "tuple"), none, (.seq #[(.str (Str.ofString "self") (856:Nat))] (0:Nat)), #[]⟩) ::
  (nat_lit 520, ⟨(.type "tuple"), none, (.seq #[] (0:Nat)), #[]⟩) ::
  (nat_lit 522, ⟨(.type "code"), none, (.fields #[(.str (Str.ofString "flush") (853:Nat)), (.str (Str.ofString "StringIO.flush") (854:Nat)), (.str (Str.ofString "/claim/cut.py") (855:Nat)), (.int 385 (0:Nat)), (.int 1 (0:Nat)), (.int 0 (0:Nat)), (.int 0 (0:Nat)), (.int 3 (0:Nat)), (.ref (517:Nat)), (.bool true), (.int 273 (0:Nat)), (.ref (518:Nat)), .none, (.ref (519:Nat)), (.ref (520:Nat)), (.ref (521:Nat)), (.int 857 (0:Nat)), (.int 385 (0:Nat)), (.str (Str.ofString "/claim/cut.py") (858:Nat))]), #[]⟩) ::
  (nat_lit 523, ⟨(.type "function"), none, (.func (fnO (nthS (bodyS (nthS TB 17)) 18) (Str.ofString "StringIO.flush") (3:Nat) [] .none .none .none (.str (Str.ofString "io") (330:Nat)) none (.ref (522:Nat)) .none (0:Nat))), #[]⟩) ::
  (nat_lit 524, ⟨(.type "tuple"), none, (.seq #[] (0:Nat)), #[]⟩) ::
  (nat_lit 526, ⟨(.type "tuple"), none, (.seq #[(.str (Str.ofString "self") (863:Nat))] (0:Nat)), #[]⟩) ::
  (nat_lit 527, ⟨(.type "tuple"), none, (.seq #[] (0:Nat)), #[]⟩) ::
  (nat_lit 529, ⟨(.type "code"), none, (.fields #[(.str (Str.ofString "fileno") (860:Nat)), (.str (Str.ofString "StringIO.fileno") (861:Nat)), (.str (Str.ofString "/claim/cut.py") (862:Nat)), (.int 388 (0:Nat)), (.int 1 (0:Nat)), (.int 0 (0:Nat)), (.int 0 (0:Nat)), (.int 3 (0:Nat)), (.ref (524:Nat)), (.bool true), (.int 273 (0:Nat)), (.ref (525:Nat)), .none, (.ref (526:Nat)), (.ref (527:Nat)), (.ref (528:Nat)), (.int 864 (0:Nat)), (.int 388 (0:Nat)), (.str (Str.ofString "/claim/cut.py") (865:Nat))]), #[]⟩) ::
  (nat_lit 530, ⟨(.type "function"), none, (.func (fnO (nthS (bodyS (nthS TB 17)) 19) (Str.ofString "StringIO.fileno") (3:Nat) [] .none .none .none (.str (Str.ofString "io") (330:Nat)) none (.ref (529:Nat)) .none (0:Nat))), #[]⟩) ::
  (nat_lit 531, ⟨(.type "tuple"), none, (.seq #[] (0:Nat)), #[]⟩) ::
  (nat_lit 533, ⟨(.type "tuple"), none, (.seq #[(.str (Str.ofString "self") (870:Nat))] (0:Nat)), #[]⟩) ::
  (nat_lit 534, ⟨(.type "tuple"), none, (.seq #[] (0:Nat)), #[]⟩) ::
  (nat_lit 536, ⟨(.type "code"), none, (.fields #[(.str (Str.ofString "detach") (867:Nat)), (.str (Str.ofString "StringIO.detach") (868:Nat)), (.str (Str.ofString "/claim/cut.py") (869:Nat)), (.int 391 (0:Nat)), (.int 1 (0:Nat)), (.int 0 (0:Nat)), (.int 0 (0:Nat)), (.int 3 (0:Nat)), (.ref (531:Nat)), (.bool true), (.int 273 (0:Nat)), (.ref (532:Nat)), .none, (.ref (533:Nat)), (.ref (534:Nat)), (.ref (535:Nat)), (.int 871 (0:Nat)), (.int 391 (0:Nat)), (.str (Str.ofString "/claim/cut.py") (872:Nat))]), #[]⟩) ::
  (nat_lit 537, ⟨(.type "function"), none, (.func (fnO (nthS (bodyS (nthS TB 17)) 20) (Str.ofString "StringIO.detach") (3:Nat) [] .none .none .none (.str (Str.ofString "io") (330:Nat)) none (.ref (536:Nat)) .none (0:Nat))), #[]⟩) ::
  (nat_lit 538, ⟨(.type "tuple"), none, (.seq #[] (0:Nat)), #[]⟩) ::
  (nat_lit 540, ⟨(.type "tuple"), none, (.seq #[(.str (Str.ofString "self") (877:Nat))] (0:Nat)), #[]⟩) ::
  (nat_lit 541, ⟨(.type "tuple"), none, (.seq #[] (0:Nat)), #[]⟩) ::
  (nat_lit 543, ⟨(.type "code"), none, (.fields #[(.str (Str.ofString "getvalue") (874:Nat)), (.str (Str.ofString "StringIO.getvalue") (875:Nat)), (.str (Str.ofString "/claim/cut.py") (876:Nat)), (.int 394 (0:Nat)), (.int 1 (0:Nat)), (.int 0 (0:Nat)), (.int 0 (0:Nat)), (.int 3 (0:Nat)), (.ref (538:Nat)), (.bool true), (.int 273 (0:Nat)), (.ref (539:Nat)), .none, (.ref (540:Nat)), (.ref (541:Nat)), (.ref (542:Nat)), (.int 878 (0:Nat)), (.int 394 (0:Nat)), (.str (Str.ofString "/claim/cut.py") (879:Nat))]), #[]⟩) ::
  (nat_lit 544, ⟨(.type "function"), none, (.func (fnO (nthS (bodyS (nthS TB 17)) 21) (Str.ofString "StringIO.getvalue") (3:Nat) [] .none .none .none (.str (Str.ofString "io") (330:Nat)) none (.ref (543:Nat)) .none (0:Nat))), #[]⟩) ::
  (nat_lit 545, ⟨(.type "tuple"), none, (.seq #[] (0:Nat)), #[]⟩) ::
  (nat_lit 547, ⟨(.type "tuple"), none, (.seq #[(.str (Str.ofString "self") (884:Nat))] (0:Nat)), #[]⟩) ::
  (nat_lit 548, ⟨(.type "tuple"), none, (.seq #[] (0:Nat)), #[]⟩) ::
  (nat_lit 550, ⟨(.type "code"), none, (.fields #[(.str (Str.ofString "tell") (881:Nat)), (.str (Str.ofString "StringIO.tell") (882:Nat)), (.str (Str.ofString "/claim/cut.py") (883:Nat)), (.int 397 (0:Nat)), (.int 1 (0:Nat)), (.int 0 (0:Nat)), (.int 0 (0:Nat)), (.int 3 (0:Nat)), (.ref (545:Nat)), (.bool true), (.int 273 (0:Nat)), (.ref (546:Nat)), .none, (.ref (547:Nat)), (.ref (548:Nat)), (.ref (549:Nat)), (.int 885 (0:Nat)), (.int 397 (0:Nat)), (.str (Str.ofString "/claim/cut.py") (886:Nat))]), #[]⟩) ::
  (nat_lit 551, ⟨(.type "function"), none, (.func (fnO (nthS (bodyS (nthS TB 17)) 22) (Str.ofString "StringIO.tell") (3:Nat) [] .none .none .none (.str (Str.ofString "io") (330:Nat)) none (.ref (550:Nat)) .none (0:Nat))), #[]⟩) ::
  (nat_lit 552, ⟨(.type "tuple"), none, (.seq #[(.int 0 (888:Nat))] (0:Nat)), #[]⟩) ::
  (nat_lit 553, ⟨(.type "tuple"), none, (.seq #[] (0:Nat)), #[]⟩) ::
  (nat_lit 555, ⟨(.type "tuple"), none, (.seq #[(.str (Str.ofString "self") (892:Nat)), (.str (Str.ofString "pos") (893:Nat)), (.str (Str.ofString "whence") (894:Nat))] (0:Nat)), #[]⟩) ::
  (nat_lit 556, ⟨(.type "tuple"), none, (.seq #[] (0:Nat)), #[]⟩) ::
  (nat_lit 558, ⟨(.type "code"), none, (.fields #[(.str (Str.ofString "seek") (889:Nat)), (.str (Str.ofString "StringIO.seek") (890:Nat)), (.str (Str.ofString "/claim/cut.py") (891:Nat)), (.int 401 (0:Nat)), (.int 3 (0:Nat)), (.int 3 (0:Nat)), (.int 0 (0:Nat)), (.int 3 (0:Nat)), (.ref (553:Nat)), (.bool true), (.int 273 (0:Nat)), (.ref (554:Nat)), .none, (.ref (555:Nat)), (.ref (556:Nat)), (.ref (557:Nat)), (.int 895 (0:Nat)), (.int 401 (0:Nat)), (.str (Str.ofString "/claim/cut.py") (896:Nat))]), #[]⟩) ::
  (nat_lit 559, ⟨(.type "function"), none, (.func (fnO (nthS (bodyS (nthS TB 17)) 23) (Str.ofString "StringIO.seek") (3:Nat) [] (.ref (552:Nat)) .none .none (.str (Str.ofString "io") (330:Nat)) none (.ref (558:Nat)) .none (0:Nat))), #[]⟩) ::
  (nat_lit 560, ⟨(.type "tuple"), none, (.seq #[.none] (0:Nat)), #[]⟩) ::
  (nat_lit 561, ⟨(.type "tuple"), none, (.seq #[] (0:Nat)), #[]⟩) ::
  (nat_lit 563, ⟨(.type "tuple"), none, (.seq #[(.str (Str.ofString "self") (901:Nat)), (.str (Str.ofString "pos") (902:Nat))] (0:Nat)), #[]⟩) ::
  (nat_lit 564, ⟨(.type "tuple"), none, (.seq #[] (0:Nat)), #[]⟩) ::
  (nat_lit 566, ⟨(.type "code"), none, (.fields #[(.str (Str.ofString "truncate") (898:Nat)), (.str (Str.ofString "StringIO.truncate") (899:Nat)), (.str (Str.ofString "/claim/cut.py") (900:Nat)), (.int 418 (0:Nat)), (.int 2 (0:Nat)), (.int 2 (0:Nat)), (.int 0 (0:Nat)), (.int 3 (0:Nat)), (.ref (561:Nat)), (.bool true), (.int 273 (0:Nat)), (.ref (562:Nat)), .none, (.ref (563:Nat)), (.ref (564:Nat)), (.ref (565:Nat)), (.int 903 (0:Nat)), (.int 418 (0:Nat)), (.str (Str.ofString "/claim/cut.py") (904:Nat))]), #[]⟩) ::
  (nat_lit 567, ⟨(.type "function"), none, (.func (fnO (nthS (bodyS (nthS TB 17)) 24) (Str.ofString "StringIO.truncate") (3:Nat) [] (.ref (560:Nat)) .none .none (.str (Str.ofString "io") (330:Nat)) none (.ref (566:Nat)) .none (0:Nat))), #[]⟩) ::
  (nat_lit 568, ⟨(.type "tuple"), none, (.seq #[(.int (-1) (907:Nat))] (0:Nat)), #[]⟩) ::
  (nat_lit 569, ⟨(.type "tuple"), none, (.seq #[] (0:Nat)), #[]⟩) ::
  (nat_lit 571, ⟨(.type "tuple"), none, (.seq #[(.str (Str.ofString "self") (911:Nat)), (.str (Str.ofString "size") (912:Nat)), (.str (Str.ofString "start") (913:Nat)), (.str (Str.ofString "stop") (914:Nat))] (0:Nat)), #[]⟩) ::
  (nat_lit 572, ⟨(.type "tuple"), none, (.seq #[] (0:Nat)), #[]⟩) ::
  (nat_lit 574, ⟨(.type "code"), none, (.fields #[(.str (Str.ofString "read") (908:Nat)), (.str (Str.ofString "StringIO.read") (909:Nat)), (.str (Str.ofString "/claim/cut.py") (910:Nat)), (.int 421 (0:Nat)), (.int 2 (0:Nat)), (.int 2 (0:Nat)), (.int 0 (0:Nat)), (.int 3 (0:Nat)), (.ref (569:Nat)), (.bool true), (.int 273 (0:Nat)), (.ref (570:Nat)), .none, (.ref (571:Nat)), (.ref (572:Nat)), (.ref (573:Nat)), (.int 915 (0:Nat)), (.int 421 (0:Nat)), (.str (Str.ofString "/claim/cut.py") (916:Nat))]), #[]⟩) ::
  (nat_lit 575, ⟨(.type "function"), none, (.func (fnO (nthS (bodyS (nthS TB 17)) 25) (Str.ofString "StringIO.read") (3:Nat) [] (.ref (568:Nat)) .none .none (.str (Str.ofString "io") (330:Nat)) none (.ref (574:Nat)) .none (0:Nat))), #[]⟩) ::
  (nat_lit 576, ⟨(.type "tuple"), none, (.seq #[(.int (-1) (919:Nat))] (0:Nat)), #[]⟩) ::
  (nat_lit 577, ⟨(.type "tuple"), none, (.seq #[] (0:Nat)), #[]⟩) ::
  (nat_lit 579, ⟨(.type "tuple"), none, (.seq #[(.str (Str.ofString "self") (923:Nat)), (.str (Str.ofString "size") (924:Nat))] (0:Nat)), #[]⟩) ::
  (nat_lit 580, ⟨(.type "tuple"), none, (.seq #[] (0:Nat)), #[]⟩) ::
  (nat_lit 582, ⟨(.type "code"), none, (.fields #[(.str (Str.ofString "readline") (920:Nat)), (.str (Str.ofString "StringIO.readline") (921:Nat)), (.str (Str.ofString "/claim/cut.py") (922:Nat)), (.int 435 (0:Nat)), (.int 2 (0:Nat)), (.int 2 (0:Nat)), (.int 0 (0:Nat)), (.int 3 (0:Nat)), (.ref (577:Nat)), (.bool true), (.int 273 (0:Nat)), (.ref (578:Nat)), .none, (.ref (579:Nat)), (.ref (580:Nat)), (.ref (581:Nat)), (.int 925 (0:Nat)), (.int 435 (0:Nat)), (.str (Str.ofString "/claim/cut.py") (926:Nat))]), #[]⟩) ::
  (nat_lit 583, ⟨(.type "function"), none, (.func (fnO (nthS (bodyS (nthS TB 17)) 26) (Str.ofString "StringIO.readline") (3:Nat) [] (.ref (576:Nat)) .none .none (.str (Str.ofString "io") (330:Nat)) none (.ref (582:Nat)) .none (0:Nat))), #[]⟩) ::
  (nat_lit 584, ⟨(.type "tuple"), none, (.seq #[(.int (-1) (929:Nat))] (0:Nat)), #[]⟩) ::
  (nat_lit 585, ⟨(.type "tuple"), none, (.seq #[] (0:Nat)), #[]⟩) ::
  (nat_lit 587, ⟨(.type "tuple"), none, (.seq #[(.str (Str.ofString "self") (933:Nat)), (.str (Str.ofString "hint") (934:Nat))] (0:Nat)), #[]⟩) ::
  (nat_lit 588, ⟨(.type "tuple"), none, (.seq #[] (0:Nat)), #[]⟩) ::
  (nat_lit 590, ⟨(.type "code"), none, (.fields #[(.str (Str.ofString "readlines") (930:Nat)), (.str (Str.ofString "StringIO.readlines") (931:Nat)), (.str (Str.ofString "/claim/cut.py") (932:Nat)), (.int 442 (0:Nat)), (.int 2 (0:Nat)), (.int 2 (0:Nat)), (.int 0 (0:Nat)), (.int 3 (0:Nat)), (.ref (585:Nat)), (.bool true), (.int 273 (0:Nat)), (.ref (586:Nat)), .none, (.ref (587:Nat)), (.ref (588:Nat)), (.ref (589:Nat)), (.int 935 (0:Nat)), (.int 442 (0:Nat)), (.str (Str.ofString "/claim/cut.py") (936:Nat))]), #[]⟩) ::
  (nat_lit 591, ⟨(.type "function"), none, (.func (fnO (nthS (bodyS (nthS TB 17)) 27) (Str.ofString "StringIO.readlines") (3:Nat) [] (.ref (584:Nat)) .none .none (.str (Str.ofString "io") (330:Nat)) none (.ref (590:Nat)) .none (0:Nat))), #[]⟩) ::
  (nat_lit 592, ⟨(.type "tuple"), none, (.seq #[] (0:Nat)), #[]⟩) ::
  (nat_lit 594, ⟨(.type "tuple"), none, (.seq #[(.str (Str.ofString "self") (941:Nat))] (0:Nat)), #[]⟩) ::
  (nat_lit 595, ⟨(.type "tuple"), none, (.seq #[] (0:Nat)), #[]⟩) ::
  (nat_lit 597, ⟨(.type "code"), none, (.fields #[(.str (Str.ofString "__iter__") (938:Nat)), (.str (Str.ofString "StringIO.__iter__") (939:Nat)), (.str (Str.ofString "/claim/cut.py") (940:Nat)), (.int 445 (0:Nat)), (.int 1 (0:Nat)), (.int 0 (0:Nat)), (.int 0 (0:Nat)), (.int 3 (0:Nat)), (.ref (592:Nat)), (.bool true), (.int 273 (0:Nat)), (.ref (593:Nat)), .none, (.ref (594:Nat)), (.ref (595:Nat)), (.ref (596:Nat)), (.int 942 (0:Nat)), (.int 445 (0:Nat)), (.str (Str.ofString "/claim/cut.py") (943:Nat))]), #[]⟩) ::
  (nat_lit 598, ⟨(.type "function"), none, (.func (fnO (nthS (bodyS (nthS TB 17)) 28) (Str.ofString "StringIO.__iter__") (3:Nat) [] .none .none .none (.str (Str.ofString "io") (330:Nat)) none (.ref (597:Nat)) .none (0:Nat))), #[]⟩) ::
  (nat_lit 599, ⟨(.type "tuple"), none, (.seq #[] (0:Nat)), #[]⟩) ::
  (nat_lit 601, ⟨(.type "tuple"), none, (.seq #[(.str (Str.ofString "self") (948:Nat)), (.str (Str.ofString "line") (949:Nat))] (0:Nat)), #[]⟩) ::
  (nat_lit 602, ⟨(.type "tuple"), none, (.seq #[] (0:Nat)), #[]⟩) ::
  (nat_lit 604, ⟨(.type "code"), none, (.fields #[(.str (Str.ofString "__next__") (945:Nat)), (.str (Str.ofString "StringIO.__next__") (946:Nat)), (.str (Str.ofString "/claim/cut.py") (947:Nat)), (.int 449 (0:Nat)), (.int 1 (0:Nat)), (.int 0 (0:Nat)), (.int 0 (0:Nat)), (.int 3 (0:Nat)), (.ref (599:Nat)), (.bool true), (.int 273 (0:Nat)), (.ref (600:Nat)), .none, (.ref (601:Nat)), (.ref (602:Nat)), (.ref (603:Nat)), (.int 950 (0:Nat)), (.int 449 (0:Nat)), (.str (Str.ofString "/claim/cut.py") (951:Nat))]), #[]⟩) ::
  (nat_lit 605, ⟨(.type "function"), none, (.func (fnO (nthS (bodyS (nthS TB 17)) 29) (Str.ofString "StringIO.__next__") (3:Nat) [] .none .none .none (.str (Str.ofString "io") (330:Nat)) none (.ref (604:Nat)) .none (0:Nat))), #[]⟩) ::
  (nat_lit 606, ⟨(.type "tuple"), none, (.seq #[] (0:Nat)), #[]⟩) ::
  (nat_lit 608, ⟨(.type "tuple"), none, (.seq #[(.str (Str.ofString "self") (956:Nat)), (.str (Str.ofString "s") (957:Nat)), (.str (Str.ofString "n") (958:Nat)), (.str (Str.ofString "m") (959:Nat)), (.str (Str.ofString "start") (960:Nat)), (.str (Str.ofString "buf") (961:Nat))] (0:Nat)), #[]⟩) ::
  (nat_lit 609, ⟨(.type "tuple"), none, (.seq #[] (0:Nat)), #[]⟩) ::
  (nat_lit 611, ⟨(.type "code"), none, (.fields #[(.str (Str.ofString "write") (953:Nat)), (.str (Str.ofString "StringIO.write") (954:Nat)), (.str (Str.ofString "/claim/cut.py") (955:Nat)), (.int 456 (0:Nat)), (.int 2 (0:Nat)), (.int 2 (0:Nat)), (.int 0 (0:Nat)), (.int 3 (0:Nat)), (.ref (606:Nat)), (.bool true), (.int 273 (0:Nat)), (.ref (607:Nat)), .none, (.ref (608:Nat)), (.ref (609:Nat)), (.ref (610:Nat)), (.int 962 (0:Nat)), (.int 456 (0:Nat)), (.str (Str.ofString "/claim/cut.py") (963:Nat))]), #[]⟩) ::
  (nat_lit 612, ⟨(.type "function"), none, (.func (fnO (nthS (bodyS (nthS TB 17)) 30) (Str.ofString "StringIO.write") (3:Nat) [] .none .none .none (.str (Str.ofString "io") (330:Nat)) none (.ref (611:Nat)) .none (0:Nat))), #[]⟩) ::
  (nat_lit 613, ⟨(.type "tuple"), none, (.seq #[] (0:Nat)), #[]⟩) ::
  (nat_lit 615, ⟨(.type "tuple"), none, (.seq #[(.str (Str.ofString "self") (968:Nat)), (.str (Str.ofString "lines") (969:Nat))] (0:Nat)), #[]⟩) ::
  (nat_lit 616, ⟨(.type "tuple"), none, (.seq #[] (0:Nat)), #[]⟩) ::
  (nat_lit 618, ⟨(.type "code"), none, (.fields #[(.str (Str.ofString "writelines") (965:Nat)), (.str (Str.ofString "StringIO.writelines") (966:Nat)), (.str (Str.ofString "/claim/cut.py") (967:Nat)), (.int 475 (0:Nat)), (.int 2 (0:Nat)), (.int 2 (0:Nat)), (.int 0 (0:Nat)), (.int 3 (0:Nat)), (.ref (613:Nat)), (.bool true), (.int 273 (0:Nat)), (.ref (614:Nat)), .none, (.ref (615:Nat)), (.ref (616:Nat)), (.ref (617:Nat)), (.int 970 (0:Nat)), (.int 475 (0:Nat)), (.str (Str.ofString "/claim/cut.py") (971:Nat))]), #[]⟩) ::
  (nat_lit 619, ⟨(.type "function"), none, (.func (fnO (nthS (bodyS (nthS TB 17)) 31) (Str.ofString "StringIO.writelines") (3:Nat) [] .none .none .none (.str (Str.ofString "io") (330:Nat)) none (.ref (618:Nat)) .none (0:Nat))), #[]⟩) ::
  (nat_lit 620, ⟨(.type "tuple"), none, (.seq #[] (0:Nat)), #[]⟩) ::
  (nat_lit 622, ⟨(.type "tuple"), none, (.seq #[(.str (Str.ofString "self") (976:Nat))] (0:Nat)), #[]⟩) ::
  (nat_lit 623, ⟨(.type "tuple"), none, (.seq #[] (0:Nat)), #[]⟩) ::
  (nat_lit 625, ⟨(.type "code"), none, (.fields #[(.str (Str.ofString "__repr__") (973:Nat)), (.str (Str.ofString "StringIO.__repr__") (974:Nat)), (.str (Str.ofString "/claim/cut.py") (975:Nat)), (.int 478 (0:Nat)), (.int 1 (0:Nat)), (.int 0 (0:Nat)), (.int 0 (0:Nat)), (.int 3 (0:Nat)), (.ref (620:Nat)), (.bool true), (.int 273 (0:Nat)), (.ref (621:Nat)), .none, (.ref (622:Nat)), (.ref (623:Nat)), (.ref (624:Nat)), (.int 977 (0:Nat)), (.int 478 (0:Nat)), (.str (Str.ofString "/claim/cut.py") (978:Nat))]), #[]⟩) ::
  (nat_lit 626, ⟨(.type "function"), none, (.func (fnO (nthS (bodyS (nthS TB 17)) 32) (Str.ofString "StringIO.__repr__") (3:Nat) [] .none .none .none (.str (Str.ofString "io") (330:Nat)) none (.ref (625:Nat)) .none (0:Nat))), #[]⟩) ::
  (nat_lit 627, ⟨(.type "tuple"), none, (.seq #[(.str (Str.ofString "__buf") (980:Nat)), (.str (Str.ofString "__newline") (981:Nat)), (.str (Str.ofString "__pos") (982:Nat))] (0:Nat)), #[]⟩) ::
  (nat_lit 628, ⟨(.type "dict"), none, (.dict #[⟨PyData.keyHash P (Str.ofString "__module__"), (.str (Str.ofString "__module__") (707:Nat)), (.str (Str.ofString "_io") (712:Nat))⟩, ⟨PyData.keyHash P (Str.ofString "__firstlineno__"), (.str (Str.ofString "__firstlineno__") (711:Nat)), (.int 275 (710:Nat))⟩, ⟨PyData.keyHash P (Str.ofString "__init__"), (.str (Str.ofString "__init__") (724:Nat)), (.ref (399:Nat))⟩, ⟨PyData.keyHash P (Str.ofString "_StringIO__translated"), (.str (Str.ofString "_StringIO__translated") (733:Nat)), (.ref (406:Nat))⟩, ⟨PyData.keyHash P (Str.ofString "_StringIO__check"), (.str (Str.ofString "_StringIO__check") (740:Nat)), (.ref (413:Nat))⟩, ⟨PyData.keyHash P (Str.ofString "_StringIO__check_dot"), (.str (Str.ofString "_StringIO__check_dot") (747:Nat)), (.ref (420:Nat))⟩, ⟨PyData.keyHash P (Str.ofString "_StringIO__line"), (.str (Str.ofString "_StringIO__line") (762:Nat)), (.ref (427:Nat))⟩, ⟨PyData.keyHash P (Str.ofString "closed"), (.str (Str.ofString "closed") (770:Nat)), (.ref (435:Nat))⟩, ⟨PyData.keyHash P (Str.ofString "line_buffering"), (.str (Str.ofString "line_buffering") (778:Nat)), (.ref (443:Nat))⟩, ⟨PyData.keyHash P (Str.ofString "newlines"), (.str (Str.ofString "newlines") (786:Nat)), (.ref (451:Nat))⟩, ⟨PyData.keyHash P (Str.ofString "encoding"), (.str (Str.ofString "encoding") (794:Nat)), (.ref (459:Nat))⟩, ⟨PyData.keyHash P (Str.ofString "errors"), (.str (Str.ofString "errors") (802:Nat)), (.ref (467:Nat))⟩, ⟨PyData.keyHash P (Str.ofString "close"), (.str (Str.ofString "close") (809:Nat)), (.ref (474:Nat))⟩, ⟨PyData.keyHash P (Str.ofString "__enter__"), (.str (Str.ofString "__enter__") (816:Nat)), (.ref (481:Nat))⟩, ⟨PyData.keyHash P (Str.ofString "__exit__"), (.str (Str.ofString "__exit__") (824:Nat)), (.ref (488:Nat))⟩, ⟨PyData.keyHash P (Str.ofString "readable"), (.str (Str.ofString "readable") (831:Nat)), (.ref (495:Nat))⟩, ⟨PyData.keyHash P (Str.ofString "writable"), (.str (Str.ofString "writable") (838:Nat)), (.ref (502:Nat))⟩, ⟨PyData.keyHash P (Str.ofString "seekable"), (.str (Str.ofString "seekable") (845:Nat)), (.ref (509:Nat))⟩, ⟨PyData.keyHash P (Str.ofString "isatty"), (.str (Str.ofString "isatty") (852:Nat)), (.ref (516:Nat))⟩, ⟨PyData.keyHash P (Str.ofString "flush"), (.str (Str.ofString "flush") (859:Nat)), (.ref (523:Nat))⟩, ⟨PyData.keyHash P (Str.ofString "fileno"), (.str (Str.ofString "fileno") (866:Nat)), (.ref (530:Nat))⟩, ⟨PyData.keyHash P (Str.ofString "detach"), (.str (Str.ofString "detach") (873:Nat)), (.ref (537:Nat))⟩, ⟨PyData.keyHash P (Str.ofString "getvalue"), (.str (Str.ofString "getvalue") (880:Nat)), (.ref (544:Nat))⟩, ⟨PyData.keyHash P (Str.ofString "tell"), (.str (Str.ofString "tell") (887:Nat)), (.ref (551:Nat))⟩, ⟨PyData.keyHash P (Str.ofString "seek"), (.str (Str.ofString "seek") (897:Nat)), (.ref (559:Nat))⟩, ⟨PyData.keyHash P (Str.ofString "truncate"), (.str (Str.ofString "truncate") (905:Nat)), (.ref (567:Nat))⟩, ⟨PyData.keyHash P (Str.ofString "read"), (.str (Str.ofString "read") (917:Nat)), (.ref (575:Nat))⟩, ⟨PyData.keyHash P (Str.ofString "readline"), (.str (Str.ofString "readline") (927:Nat)), (.ref (583:Nat))⟩, ⟨PyData.keyHash P (Str.ofString "readlines"), (.str (Str.ofString "readlines") (937:Nat)), (.ref (591:Nat))⟩, ⟨PyData.keyHash P (Str.ofString "__iter__"), (.str (Str.ofString "__iter__") (944:Nat)), (.ref (598:Nat))⟩, ⟨PyData.keyHash P (Str.ofString "__next__"), (.str (Str.ofString "__next__") (952:Nat)), (.ref (605:Nat))⟩, ⟨PyData.keyHash P (Str.ofString "write"), (.str (Str.ofString "write") (964:Nat)), (.ref (612:Nat))⟩, ⟨PyData.keyHash P (Str.ofString "writelines"), (.str (Str.ofString "writelines") (972:Nat)), (.ref (619:Nat))⟩, ⟨PyData.keyHash P (Str.ofString "__repr__"), (.str (Str.ofString "__repr__") (979:Nat)), (.ref (626:Nat))⟩, ⟨PyData.keyHash P (Str.ofString "__static_attributes__"), (.str (Str.ofString "__static_attributes__") (983:Nat)), (.ref (627:Nat))⟩, ⟨PyData.keyHash P (Str.ofString "__doc__"), (.str (Str.ofString "__doc__") (984:Nat)), .none⟩] (2:Nat)), #[]⟩) ::
  (nat_lit 629, ⟨(.type "type"), none, (.cls ⟨(Str.ofString "StringIO"), [(.ref (152:Nat))], [(.ref (629:Nat)), (.ref (152:Nat)), (.ref (125:Nat)), (.type "object")], (628:Nat), (Str.ofString "StringIO"), true, [], [], false, none, false⟩), #[(some (.ref (385:Nat))), none, (some (.str (Str.ofString "StringIO") (700:Nat))), (some (.str (Str.ofString "StringIO") (708:Nat))), (some .none), (some (.bool true))]⟩) ::
  (nat_lit 632, ⟨(.type "tuple"), none, (.seq #[] (0:Nat)), #[]⟩) ::
  (nat_lit 634, ⟨(.type "tuple"), none, (.seq #[(.str (Str.ofString "name") (992:Nat)), (.str (Str.ofString "x") (993:Nat)), (.str (Str.ofString "t") (994:Nat))] (0:Nat)), #[]⟩) ::
  (nat_lit 635, ⟨(.type "tuple"), none, (.seq #[] (0:Nat)), #[]⟩) ::
  (nat_lit 637, ⟨(.type "code"), none, (.fields #[(.str (Str.ofString "_kind") (989:Nat)), (.str (Str.ofString "_kind") (990:Nat)), (.str (Str.ofString "/claim/cut.py") (991:Nat)), (.int 481 (0:Nat)), (.int 2 (0:Nat)), (.int 0 (0:Nat)), (.int 0 (0:Nat)), (.int 3 (0:Nat)), (.ref (632:Nat)), (.bool true), (.int 273 (0:Nat)), (.ref (633:Nat)), .none, (.ref (634:Nat)), (.ref (635:Nat)), (.ref (636:Nat)), (.int 995 (0:Nat)), (.int 481 (0:Nat)), (.str (Str.ofString "/claim/cut.py") (996:Nat))]), #[]⟩) ::
  (nat_lit 638, ⟨(.type "function"), none, (.func (fnO (nthS TB 19) (Str.ofString "_kind") (3:Nat) [] .none .none .none (.str (Str.ofString "os.path") (987:Nat)) none (.ref (637:Nat)) .none (0:Nat))), #[]⟩) ::
  (nat_lit 639, ⟨(.type "tuple"), none, (.seq #[] (0:Nat)), #[]⟩) ::
  (nat_lit 641, ⟨(.type "tuple"), none, (.seq #[(.str (Str.ofString "name") (1001:Nat)), (.str (Str.ofString "x") (1002:Nat)), (.str (Str.ofString "k") (1003:Nat))] (0:Nat)), #[]⟩) ::
  (nat_lit 642, ⟨(.type "tuple"), none, (.seq #[] (0:Nat)), #[]⟩) ::
  (nat_lit 644, ⟨(.type "code"), none, (.fields #[(.str (Str.ofString "_fspath") (998:Nat)), (.str (Str.ofString "_fspath") (999:Nat)), (.str (Str.ofString "/claim/cut.py") (1000:Nat)), (.int 502 (0:Nat)), (.int 2 (0:Nat)), (.int 0 (0:Nat)), (.int 0 (0:Nat)), (.int 3 (0:Nat)), (.ref (639:Nat)), (.bool true), (.int 273 (0:Nat)), (.ref (640:Nat)), .none, (.ref (641:Nat)), (.ref (642:Nat)), (.ref (643:Nat)), (.int 1004 (0:Nat)), (.int 502 (0:Nat)), (.str (Str.ofString "/claim/cut.py") (1005:Nat))]), #[]⟩) ::
  (nat_lit 645, ⟨(.type "function"), none, (.func (fnO (nthS TB 20) (Str.ofString "_fspath") (3:Nat) [] .none .none .none (.str (Str.ofString "os.path") (987:Nat)) none (.ref (644:Nat)) .none (0:Nat))), #[]⟩) ::
  (nat_lit 646, ⟨(.type "tuple"), none, (.seq #[] (0:Nat)), #[]⟩) ::
  (nat_lit 648, ⟨(.type "tuple"), none, (.seq #[(.str (Str.ofString "funcname") (1010:Nat)), (.str (Str.ofString "args") (1011:Nat)), (.str (Str.ofString "s") (1012:Nat)), (.str (Str.ofString "k") (1013:Nat))] (0:Nat)), #[]⟩) ::
  (nat_lit 649, ⟨(.type "tuple"), none, (.seq #[] (0:Nat)), #[]⟩) ::
  (nat_lit 651, ⟨(.type "code"), none, (.fields #[(.str (Str.ofString "_check_arg_types") (1007:Nat)), (.str (Str.ofString "_check_arg_types") (1008:Nat)), (.str (Str.ofString "/claim/cut.py") (1009:Nat)), (.int 507 (0:Nat)), (.int 1 (0:Nat)), (.int 0 (0:Nat)), (.int 0 (0:Nat)), (.int 7 (0:Nat)), (.ref (646:Nat)), (.bool true), (.int 273 (0:Nat)), (.ref (647:Nat)), .none, (.ref (648:Nat)), (.ref (649:Nat)), (.ref (650:Nat)), (.int 1014 (0:Nat)), (.int 507 (0:Nat)), (.str (Str.ofString "/claim/cut.py") (1015:Nat))]), #[]⟩) ::
  (nat_lit 652, ⟨(.type "function"), none, (.func (fnO (nthS TB 21) (Str.ofString "_check_arg_types") (3:Nat) [] .none .none .none (.str (Str.ofString "os.path") (987:Nat)) none (.ref (651:Nat)) .none (0:Nat))), #[]⟩) ::
  (nat_lit 653, ⟨(.type "tuple"), none, (.seq #[] (0:Nat)), #[]⟩) ::
  (nat_lit 655, ⟨(.type "tuple"), none, (.seq #[(.str (Str.ofString "s") (1020:Nat))] (0:Nat)), #[]⟩) ::
  (nat_lit 656, ⟨(.type "tuple"), none, (.seq #[] (0:Nat)), #[]⟩) ::
  (nat_lit 658, ⟨(.type "code"), none, (.fields #[(.str (Str.ofString "isabs") (1017:Nat)), (.str (Str.ofString "isabs") (1018:Nat)), (.str (Str.ofString "/claim/cut.py") (1019:Nat)), (.int 512 (0:Nat)), (.int 1 (0:Nat)), (.int 0 (0:Nat)), (.int 0 (0:Nat)), (.int 3 (0:Nat)), (.ref (653:Nat)), (.bool true), (.int 273 (0:Nat)), (.ref (654:Nat)), .none, (.ref (655:Nat)), (.ref (656:Nat)), (.ref (657:Nat)), (.int 1021 (0:Nat)), (.int 512 (0:Nat)), (.str (Str.ofString "/claim/cut.py") (1022:Nat))]), #[]⟩) ::
  (nat_lit 659, ⟨(.type "function"), none, (.func (fnO (nthS TB 22) (Str.ofString "isabs") (3:Nat) [] .none .none .none (.str (Str.ofString "os.path") (987:Nat)) none (.ref (658:Nat)) .none (0:Nat))), #[]⟩) ::
  (nat_lit 660, ⟨(.type "tuple"), none, (.seq #[] (0:Nat)), #[]⟩) ::
  (nat_lit 662, ⟨(.type "tuple"), none, (.seq #[(.str (Str.ofString "a") (1027:Nat)), (.str (Str.ofString "p") (1028:Nat)), (.str (Str.ofString "b") (1029:Nat)), (.str (Str.ofString "sep") (1030:Nat)), (.str (Str.ofString "path") (1031:Nat))] (0:Nat)), #[]⟩) ::
  (nat_lit 663, ⟨(.type "tuple"), none, (.seq #[] (0:Nat)), #[]⟩) ::
  (nat_lit 665, ⟨(.type "code"), none, (.fields #[(.str (Str.ofString "join") (1024:Nat)), (.str (Str.ofString "join") (1025:Nat)), (.str (Str.ofString "/claim/cut.py") (1026:Nat)), (.int 515 (0:Nat)), (.int 1 (0:Nat)), (.int 0 (0:Nat)), (.int 0 (0:Nat)), (.int 7 (0:Nat)), (.ref (660:Nat)), (.bool true), (.int 273 (0:Nat)), (.ref (661:Nat)), .none, (.ref (662:Nat)), (.ref (663:Nat)), (.ref (664:Nat)), (.int 1032 (0:Nat)), (.int 515 (0:Nat)), (.str (Str.ofString "/claim/cut.py") (1033:Nat))]), #[]⟩) ::
  (nat_lit 666, ⟨(.type "function"), none, (.func (fnO (nthS TB 23) (Str.ofString "join") (3:Nat) [] .none .none .none (.str (Str.ofString "os.path") (987:Nat)) none (.ref (665:Nat)) .none (0:Nat))), #[]⟩) ::
  (nat_lit 667, ⟨(.type "tuple"), none, (.seq #[] (0:Nat)), #[]⟩) ::
  (nat_lit 669, ⟨(.type "tuple"), none, (.seq #[(.str (Str.ofString "p") (1038:Nat)), (.str (Str.ofString "sep") (1039:Nat)), (.str (Str.ofString "i") (1040:Nat)), (.str (Str.ofString "head") (1041:Nat))] (0:Nat)), #[]⟩) ::
  (nat_lit 670, ⟨(.type "tuple"), none, (.seq #[] (0:Nat)), #[]⟩) ::
  (nat_lit 672, ⟨(.type "code"), none, (.fields #[(.str (Str.ofString "dirname") (1035:Nat)), (.str (Str.ofString "dirname") (1036:Nat)), (.str (Str.ofString "/claim/cut.py") (1037:Nat)), (.int 535 (0:Nat)), (.int 1 (0:Nat)), (.int 0 (0:Nat)), (.int 0 (0:Nat)), (.int 3 (0:Nat)), (.ref (667:Nat)), (.bool true), (.int 273 (0:Nat)), (.ref (668:Nat)), .none, (.ref (669:Nat)), (.ref (670:Nat)), (.ref (671:Nat)), (.int 1042 (0:Nat)), (.int 535 (0:Nat)), (.str (Str.ofString "/claim/cut.py") (1043:Nat))]), #[]⟩) ::
  (nat_lit 673, ⟨(.type "function"), none, (.func (fnO (nthS TB 24) (Str.ofString "dirname") (3:Nat) [] .none .none .none (.str (Str.ofString "os.path") (987:Nat)) none (.ref (672:Nat)) .none (0:Nat))), #[]⟩) ::
  (nat_lit 681, ⟨(.type "tuple"), none, (.seq #[.none, .none, (.bool false), (.bool false)] (0:Nat)), #[]⟩) ::
  (nat_lit 682, ⟨(.type "tuple"), none, (.seq #[] (0:Nat)), #[]⟩) ::
  (nat_lit 684, ⟨(.type "tuple"), none, (.seq #[(.str (Str.ofString "self") (1062:Nat)), (.str (Str.ofString "instream") (1063:Nat)), (.str (Str.ofString "infile") (1064:Nat)), (.str (Str.ofString "posix") (1065:Nat)), (.str (Str.ofString "punctuation_chars") (1066:Nat)), (.str (Str.ofString "t") (1067:Nat))] (0:Nat)), #[]⟩) ::
  (nat_lit 685, ⟨(.type "tuple"), none, (.seq #[] (0:Nat)), #[]⟩) ::
  (nat_lit 687, ⟨(.type "code"), none, (.fields #[(.str (Str.ofString "__init__") (1059:Nat)), (.str (Str.ofString "shlex.__init__") (1060:Nat)), (.str (Str.ofString "/claim/cut.py") (1061:Nat)), (.int 546 (0:Nat)), (.int 5 (0:Nat)), (.int 0 (0:Nat)), (.int 0 (0:Nat)), (.int 3 (0:Nat)), (.ref (682:Nat)), (.bool true), (.int 273 (0:Nat)), (.ref (683:Nat)), .none, (.ref (684:Nat)), (.ref (685:Nat)), (.ref (686:Nat)), (.int 1068 (0:Nat)), (.int 546 (0:Nat)), (.str (Str.ofString "/claim/cut.py") (1069:Nat))]), #[]⟩) ::
  (nat_lit 688, ⟨(.type "function"), none, (.func (fnO (nthS (bodyS (nthS TB 26)) 0) (Str.ofString "shlex.__init__") (3:Nat) [] (.ref (681:Nat)) .none .none (.str (Str.ofString "cpy313.shlex") (1045:Nat)) none (.ref (687:Nat)) .none (0:Nat))), #[]⟩) ::
  (nat_lit 689, ⟨(.type "tuple"), none, (.seq #[] (0:Nat)), #[]⟩) ::
  (nat_lit 691, ⟨(.type "tuple"), none, (.seq #[(.str (Str.ofString "self") (1074:Nat))] (0:Nat)), #[]⟩) ::
  (nat_lit 692, ⟨(.type "tuple"), none, (.seq #[] (0:Nat)), #[]⟩) ::
  (nat_lit 694, ⟨(.type "code"), none, (.fields #[(.str (Str.ofString "punctuation_chars") (1071:Nat)), (.str (Str.ofString "shlex.punctuation_chars") (1072:Nat)), (.str (Str.ofString "/claim/cut.py") (1073:Nat)), (.int 587 (0:Nat)), (.int 1 (0:Nat)), (.int 0 (0:Nat)), (.int 0 (0:Nat)), (.int 3 (0:Nat)), (.ref (689:Nat)), (.bool true), (.int 273 (0:Nat)), (.ref (690:Nat)), .none, (.ref (691:Nat)), (.ref (692:Nat)), (.ref (693:Nat)), (.int 1075 (0:Nat)), (.int 587 (0:Nat)), (.str (Str.ofString "/claim/cut.py") (1076:Nat))]), #[]⟩) ::
  (nat_lit 695, ⟨(.type "function"), none, (.func (fnO (nthS (bodyS (nthS TB 26)) 1) (Str.ofString "shlex.punctuation_chars") (3:Nat) [] .none .none .none (.str (Str.ofString "cpy313.shlex") (1045:Nat)) none (.ref (694:Nat)) .none (0:Nat))), #[]⟩) ::
  (nat_lit 696, ⟨(.type "property"), none, (.fields #[(.ref (695:Nat)), .none, .none, .none, (.str (Str.ofString "punctuation_chars") (1078:Nat)), (.bool false)]), #[]⟩) ::
  (nat_lit 697, ⟨(.type "tuple"), none, (.seq #[] (0:Nat)), #[]⟩) ::
  (nat_lit 699, ⟨(.type "tuple"), none, (.seq #[(.str (Str.ofString "self") (1082:Nat)), (.str (Str.ofString "tok") (1083:Nat))] (0:Nat)), #[]⟩) ::
  (nat_lit 700, ⟨(.type "tuple"), none, (.seq #[] (0:Nat)), #[]⟩) ::
  (nat_lit 702, ⟨(.type "code"), none, (.fields #[(.str (Str.ofString "push_token") (1079:Nat)), (.str (Str.ofString "shlex.push_token") (1080:Nat)), (.str (Str.ofString "/claim/cut.py") (1081:Nat)), (.int 591 (0:Nat)), (.int 2 (0:Nat)), (.int 0 (0:Nat)), (.int 0 (0:Nat)), (.int 3 (0:Nat)), (.ref (697:Nat)), (.bool true), (.int 273 (0:Nat)), (.ref (698:Nat)), .none, (.ref (699:Nat)), (.ref (700:Nat)), (.ref (701:Nat)), (.int 1084 (0:Nat)), (.int 591 (0:Nat)), (.str (Str.ofString "/claim/cut.py") (1085:Nat))]), #[]⟩) ::
  (nat_lit 703, ⟨(.type "function"), none, (.func (fnO (nthS (bodyS (nthS TB 26)) 2) (Str.ofString "shlex.push_token") (3:Nat) [] .none .none .none (.str (Str.ofString "cpy313.shlex") (1045:Nat)) none (.ref (702:Nat)) .none (0:Nat))), #[]⟩) ::
  (nat_lit 704, ⟨(.type "tuple"), none, (.seq #[.none] (0:Nat)), #[]⟩) ::
  (nat_lit 705, ⟨(.type "tuple"), none, (.seq #[] (0:Nat)), #[]⟩) ::
  (nat_lit 707, ⟨(.type "tuple"), none, (.seq #[(.str (Str.ofString "self") (1090:Nat)), (.str (Str.ofString "newstream") (1091:Nat)), (.str (Str.ofString "newfile") (1092:Nat))] (0:Nat)), #[]⟩) ::
  (nat_lit 708, ⟨(.type "tuple"), none, (.seq #[] (0:Nat)), #[]⟩) ::
  (nat_lit 710, ⟨(.type "code"), none, (.fields #[(.str (Str.ofString "push_source") (1087:Nat)), (.str (Str.ofString "shlex.push_source") (1088:Nat)), (.str (Str.ofString "/claim/cut.py") (1089:Nat)), (.int 594 (0:Nat)), (.int 3 (0:Nat)), (.int 0 (0:Nat)), (.int 0 (0:Nat)), (.int 3 (0:Nat)), (.ref (705:Nat)), (.bool true), (.int 273 (0:Nat)), (.ref (706:Nat)), .none, (.ref (707:Nat)), (.ref (708:Nat)), (.ref (709:Nat)), (.int 1093 (0:Nat)), (.int 594 (0:Nat)), (.str (Str.ofString "/claim/cut.py") (1094:Nat))]), #[]⟩) ::
  (nat_lit 711, ⟨(.type "function"), none, (.func (fnO (nthS (bodyS (nthS TB 26)) 3) (Str.ofString "shlex.push_source") (3:Nat) [] (.ref (704:Nat)) .none .none (.str (Str.ofString "cpy313.shlex") (1045:Nat)) none (.ref (710:Nat)) .none (0:Nat))), #[]⟩) ::
  (nat_lit 712, ⟨(.type "tuple"), none, (.seq #[] (0:Nat)), #[]⟩) ::
  (nat_lit 714, ⟨(.type "tuple"), none, (.seq #[(.str (Str.ofString "self") (1099:Nat))] (0:Nat)), #[]⟩) ::
  (nat_lit 715, ⟨(.type "tuple"), none, (.seq #[] (0:Nat)), #[]⟩) ::
  (nat_lit 717, ⟨(.type "code"), none, (.fields #[(.str (Str.ofString "pop_source") (1096:Nat)), (.str (Str.ofString "shlex.pop_source") (1097:Nat)), (.str (Str.ofString "/claim/cut.py") (1098:Nat)), (.int 607 (0:Nat)), (.int 1 (0:Nat)), (.int 0 (0:Nat)), (.int 0 (0:Nat)), (.int 3 (0:Nat)), (.ref (712:Nat)), (.bool true), (.int 273 (0:Nat)), (.ref (713:Nat)), .none, (.ref (714:Nat)), (.ref (715:Nat)), (.ref (716:Nat)), (.int 1100 (0:Nat)), (.int 607 (0:Nat)), (.str (Str.ofString "/claim/cut.py") (1101:Nat))]), #[]⟩) ::
  (nat_lit 718, ⟨(.type "function"), none, (.func (fnO (nthS (bodyS (nthS TB 26)) 4) (Str.ofString "shlex.pop_source") (3:Nat) [] .none .none .none (.str (Str.ofString "cpy313.shlex") (1045:Nat)) none (.ref (717:Nat)) .none (0:Nat))), #[]⟩) ::
  (nat_lit 719, ⟨(.type "tuple"), none, (.seq #[] (0:Nat)), #[]⟩) ::
  (nat_lit 721, ⟨(.type "tuple"), none, (.seq #[(.str (Str.ofString "self") (1106:Nat)), (.str (Str.ofString "tok") (1107:Nat)), (.str (Str.ofString "raw") (1108:Nat)), (.str (Str.ofString "spec") (1109:Nat)), (.str (Str.ofString "newfile") (1110:Nat)), (.str (Str.ofString "newstream") (1111:Nat))] (0:Nat)), #[]⟩) ::
  (nat_lit 722, ⟨(.type "tuple"), none, (.seq #[] (0:Nat)), #[]⟩) ::
  (nat_lit 724, ⟨(.type "code"), none, (.fields #[(.str (Str.ofString "get_token") (1103:Nat)), (.str (Str.ofString "shlex.get_token") (1104:Nat)), (.str (Str.ofString "/claim/cut.py") (1105:Nat)), (.int 614 (0:Nat)), (.int 1 (0:Nat)), (.int 0 (0:Nat)), (.int 0 (0:Nat)), (.int 3 (0:Nat)), (.ref (719:Nat)), (.bool true), (.int 273 (0:Nat)), (.ref (720:Nat)), .none, (.ref (721:Nat)), (.ref (722:Nat)), (.ref (723:Nat)), (.int 1112 (0:Nat)), (.int 614 (0:Nat)), (.str (Str.ofString "/claim/cut.py") (1113:Nat))]), #[]⟩) ::
  (nat_lit 725, ⟨(.type "function"), none, (.func (fnO (nthS (bodyS (nthS TB 26)) 5) (Str.ofString "shlex.get_token") (3:Nat) [] .none .none .none (.str (Str.ofString "cpy313.shlex") (1045:Nat)) none (.ref (724:Nat)) .none (0:Nat))), #[]⟩) ::
  (nat_lit 726, ⟨(.type "tuple"), none, (.seq #[] (0:Nat)), #[]⟩) ::
  (nat_lit 728, ⟨(.type "tuple"), none, (.seq #[(.str (Str.ofString "self") (1118:Nat)), (.str (Str.ofString "quoted") (1119:Nat)), (.str (Str.ofString "escapedstate") (1120:Nat)), (.str (Str.ofString "nextchar") (1121:Nat)), (.str (Str.ofString "result") (1122:Nat))] (0:Nat)), #[]⟩) ::
  (nat_lit 729, ⟨(.type "tuple"), none, (.seq #[] (0:Nat)), #[]⟩) ::
  (nat_lit 731, ⟨(.type "code"), none, (.fields #[(.str (Str.ofString "read_token") (1115:Nat)), (.str (Str.ofString "shlex.read_token") (1116:Nat)), (.str (Str.ofString "/claim/cut.py") (1117:Nat)), (.int 641 (0:Nat)), (.int 1 (0:Nat)), (.int 0 (0:Nat)), (.int 0 (0:Nat)), (.int 3 (0:Nat)), (.ref (726:Nat)), (.bool true), (.int 273 (0:Nat)), (.ref (727:Nat)), .none, (.ref (728:Nat)), (.ref (729:Nat)), (.ref (730:Nat)), (.int 1123 (0:Nat)), (.int 641 (0:Nat)), (.str (Str.ofString "/claim/cut.py") (1124:Nat))]), #[]⟩) ::
  (nat_lit 732, ⟨(.type "function"), none, (.func (fnO (nthS (bodyS (nthS TB 26)) 6) (Str.ofString "shlex.read_token") (3:Nat) [] .none .none .none (.str (Str.ofString "cpy313.shlex") (1045:Nat)) none (.ref (731:Nat)) .none (0:Nat))), #[]⟩) ::
  (nat_lit 733, ⟨(.type "tuple"), none, (.seq #[] (0:Nat)), #[]⟩) ::
  (nat_lit 735, ⟨(.type "tuple"), none, (.seq #[(.str (Str.ofString "self") (1129:Nat)), (.str (Str.ofString "newfile") (1130:Nat))] (0:Nat)), #[]⟩) ::
  (nat_lit 736, ⟨(.type "tuple"), none, (.seq #[] (0:Nat)), #[]⟩) ::
  (nat_lit 738, ⟨(.type "code"), none, (.fields #[(.str (Str.ofString "sourcehook") (1126:Nat)), (.str (Str.ofString "shlex.sourcehook") (1127:Nat)), (.str (Str.ofString "/claim/cut.py") (1128:Nat)), (.int 778 (0:Nat)), (.int 2 (0:Nat)), (.int 0 (0:Nat)), (.int 0 (0:Nat)), (.int 3 (0:Nat)), (.ref (733:Nat)), (.bool true), (.int 273 (0:Nat)), (.ref (734:Nat)), .none, (.ref (735:Nat)), (.ref (736:Nat)), (.ref (737:Nat)), (.int 1131 (0:Nat)), (.int 778 (0:Nat)), (.str (Str.ofString "/claim/cut.py") (1132:Nat))]), #[]⟩) ::
  (nat_lit 739, ⟨(.type "function"), none, (.func (fnO (nthS (bodyS (nthS TB 26)) 7) (Str.ofString "shlex.sourcehook") (3:Nat) [] .none .none .none (.str (Str.ofString "cpy313.shlex") (1045:Nat)) none (.ref (738:Nat)) .none (0:Nat))), #[]⟩) ::
  (nat_lit 740, ⟨(.type "tuple"), none, (.seq #[.none, .none] (0:Nat)), #[]⟩) ::
  (nat_lit 741, ⟨(.type "tuple"), none, (.seq #[] (0:Nat)), #[]⟩) ::
  (nat_lit 743, ⟨(.type "tuple"), none, (.seq #[(.str (Str.ofString "self") (1137:Nat)), (.str (Str.ofString "infile") (1138:Nat)), (.str (Str.ofString "lineno") (1139:Nat))] (0:Nat)), #[]⟩) ::
  (nat_lit 744, ⟨(.type "tuple"), none, (.seq #[] (0:Nat)), #[]⟩) ::
  (nat_lit 746, ⟨(.type "code"), none, (.fields #[(.str (Str.ofString "error_leader") (1134:Nat)), (.str (Str.ofString "shlex.error_leader") (1135:Nat)), (.str (Str.ofString "/claim/cut.py") (1136:Nat)), (.int 785 (0:Nat)), (.int 3 (0:Nat)), (.int 0 (0:Nat)), (.int 0 (0:Nat)), (.int 3 (0:Nat)), (.ref (741:Nat)), (.bool true), (.int 273 (0:Nat)), (.ref (742:Nat)), .none, (.ref (743:Nat)), (.ref (744:Nat)), (.ref (745:Nat)), (.int 1140 (0:Nat)), (.int 785 (0:Nat)), (.str (Str.ofString "/claim/cut.py") (1141:Nat))]), #[]⟩) ::
  (nat_lit 747, ⟨(.type "function"), none, (.func (fnO (nthS (bodyS (nthS TB 26)) 8) (Str.ofString "shlex.error_leader") (3:Nat) [] (.ref (740:Nat)) .none .none (.str (Str.ofString "cpy313.shlex") (1045:Nat)) none (.ref (746:Nat)) .none (0:Nat))), #[]⟩) ::
  (nat_lit 748, ⟨(.type "tuple"), none, (.seq #[] (0:Nat)), #[]⟩) ::
  (nat_lit 750, ⟨(.type "tuple"), none, (.seq #[(.str (Str.ofString "self") (1146:Nat))] (0:Nat)), #[]⟩) ::
  (nat_lit 751, ⟨(.type "tuple"), none, (.seq #[] (0:Nat)), #[]⟩) ::
  (nat_lit 753, ⟨(.type "code"), none, (.fields #[(.str (Str.ofString "__iter__") (1143:Nat)), (.str (Str.ofString "shlex.__iter__") (1144:Nat)), (.str (Str.ofString "/claim/cut.py") (1145:Nat)), (.int 788 (0:Nat)), (.int 1 (0:Nat)), (.int 0 (0:Nat)), (.int 0 (0:Nat)), (.int 3 (0:Nat)), (.ref (748:Nat)), (.bool true), (.int 273 (0:Nat)), (.ref (749:Nat)), .none, (.ref (750:Nat)), (.ref (751:Nat)), (.ref (752:Nat)), (.int 1147 (0:Nat)), (.int 788 (0:Nat)), (.str (Str.ofString "/claim/cut.py") (1148:Nat))]), #[]⟩) ::
  (nat_lit 754, ⟨(.type "function"), none, (.func (fnO (nthS (bodyS (nthS TB 26)) 9) (Str.ofString "shlex.__iter__") (3:Nat) [] .none .none .none (.str (Str.ofString "cpy313.shlex") (1045:Nat)) none (.ref (753:Nat)) .none (0:Nat))), #[]⟩) ::
  (nat_lit 755, ⟨(.type "tuple"), none, (.seq #[] (0:Nat)), #[]⟩) ::
  (nat_lit 757, ⟨(.type "tuple"), none, (.seq #[(.str (Str.ofString "self") (1153:Nat)), (.str (Str.ofString "token") (1154:Nat))] (0:Nat)), #[]⟩) ::
  (nat_lit 758, ⟨(.type "tuple"), none, (.seq #[] (0:Nat)), #[]⟩) ::
  (nat_lit 760, ⟨(.type "code"), none, (.fields #[(.str (Str.ofString "__next__") (1150:Nat)), (.str (Str.ofString "shlex.__next__") (1151:Nat)), (.str (Str.ofString "/claim/cut.py") (1152:Nat)), (.int 791 (0:Nat)), (.int 1 (0:Nat)), (.int 0 (0:Nat)), (.int 0 (0:Nat)), (.int 3 (0:Nat)), (.ref (755:Nat)), (.bool true), (.int 273 (0:Nat)), (.ref (756:Nat)), .none, (.ref (757:Nat)), (.ref (758:Nat)), (.ref (759:Nat)), (.int 1155 (0:Nat)), (.int 791 (0:Nat)), (.str (Str.ofString "/claim/cut.py") (1156:Nat))]), #[]⟩) ::
  (nat_lit 761, ⟨(.type "function"), none, (.func (fnO (nthS (bodyS (nthS TB 26)) 10) (Str.ofString "shlex.__next__") (3:Nat) [] .none .none .none (.str (Str.ofString "cpy313.shlex") (1045:Nat)) none (.ref (760:Nat)) .none (0:Nat))), #[]⟩) ::
  (nat_lit 762, ⟨(.type "tuple"), none, (.seq #[(.str (Str.ofString "_punctuation_chars") (1158:Nat)), (.str (Str.ofString "_pushback_chars") (1159:Nat)), (.str (Str.ofString "commenters") (1160:Nat)), (.str (Str.ofString "debug") (1161:Nat)), (.str (Str.ofString "eof") (1162:Nat)), (.str (Str.ofString "escape") (1163:Nat)), (.str (Str.ofString "escapedquotes") (1164:Nat)), (.str (Str.ofString "filestack") (1165:Nat)), (.str (Str.ofString "infile") (1166:Nat)), (.str (Str.ofString "instream") (1167:Nat)), (.str (Str.ofString "lineno") (1168:Nat)), (.str (Str.ofString "posix") (1169:Nat)), (.str (Str.ofString "pushback") (1170:Nat)), (.str (Str.ofString "quotes") (1171:Nat)), (.str (Str.ofString "source") (1172:Nat)), (.str (Str.ofString "state") (1173:Nat)), (.str (Str.ofString "token") (1174:Nat)), (.str (Str.ofString "whitespace") (1175:Nat)), (.str (Str.ofString "whitespace_split") (1176:Nat)), (.str (Str.ofString "wordchars") (1177:Nat))] (0:Nat)), #[]⟩) ::
  (nat_lit 763, ⟨(.type "dict"), none, (.dict #[⟨PyData.keyHash P (Str.ofString "__module__"), (.str (Str.ofString "__module__") (1054:Nat)), (.str (Str.ofString "cpy313.shlex") (1045:Nat))⟩, ⟨PyData.keyHash P (Str.ofString "__firstlineno__"), (.str (Str.ofString "__firstlineno__") (1058:Nat)), (.int 544 (1057:Nat))⟩, ⟨PyData.keyHash P (Str.ofString "__init__"), (.str (Str.ofString "__init__") (1070:Nat)), (.ref (688:Nat))⟩, ⟨PyData.keyHash P (Str.ofString "punctuation_chars"), (.str (Str.ofString "punctuation_chars") (1078:Nat)), (.ref (696:Nat))⟩, ⟨PyData.keyHash P (Str.ofString "push_token"), (.str (Str.ofString "push_token") (1086:Nat)), (.ref (703:Nat))⟩, ⟨PyData.keyHash P (Str.ofString "push_source"), (.str (Str.ofString "push_source") (1095:Nat)), (.ref (711:Nat))⟩, ⟨PyData.keyHash P (Str.ofString "pop_source"), (.str (Str.ofString "pop_source") (1102:Nat)), (.ref (718:Nat))⟩, ⟨PyData.keyHash P (Str.ofString "get_token"), (.str (Str.ofString "get_token") (1114:Nat)), (.ref (725:Nat))⟩, ⟨PyData.keyHash P (Str.ofString "read_token"), (.str (Str.ofString "read_token") (1125:Nat)), (.ref (732:Nat))⟩, ⟨PyData.keyHash P (Str.ofString "sourcehook"), (.str (Str.ofString "sourcehook") (1133:Nat)), (.ref (739:Nat))⟩, ⟨PyData.keyHash P (Str.ofString "error_leader"), (.str (Str.ofString "error_leader") (1142:Nat)), (.ref (747:Nat))⟩, ⟨PyData.keyHash P (Str.ofString "__iter__"), (.str (Str.ofString "__iter__") (1149:Nat)), (.ref (754:Nat))⟩, ⟨PyData.keyHash P (Str.ofString "__next__"), (.str (Str.ofString "__next__") (1157:Nat)), (.ref (761:Nat))⟩, ⟨PyData.keyHash P (Str.ofString "__static_attributes__"), (.str (Str.ofString "__static_attributes__") (1178:Nat)), (.ref (762:Nat))⟩, ⟨PyData.keyHash P (Str.ofString "__dict__"), (.str (Str.ofString "__dict__") (1180:Nat)), (.ref (765:Nat))⟩, ⟨PyData.keyHash P (Str.ofString "__weakref__"), (.str (Str.ofString "__weakref__") (1182:Nat)), (.ref (766:Nat))⟩, ⟨PyData.keyHash P (Str.ofString "__doc__"), (.str (Str.ofString "__doc__") (1183:Nat)), .none⟩] (4:Nat)), #[]⟩) ::
  (nat_lit 764, ⟨(.type "type"), none, (.cls ⟨(Str.ofString "shlex"), [(.type "object")], [(.ref (764:Nat)), (.type "object")], (763:Nat), (Str.ofString "shlex"), true, [], [], false, none, false⟩), #[none, none, (some (.str (Str.ofString "shlex") (1047:Nat))), (some (.str (Str.ofString "shlex") (1055:Nat))), (some (.builtin "object.__new__")), (some (.bool true))]⟩) ::
  (nat_lit 765, ⟨(.type "getset_descriptor"), none, (.fields #[(.str (Str.ofString "__dict__") (1179:Nat)), (.ref (764:Nat)), (.builtin "function.__dict__"), (.builtin "function.__dict__#set")]), #[]⟩) ::
  (nat_lit 766, ⟨(.type "getset_descriptor"), none, (.fields #[(.str (Str.ofString "__weakref__") (1181:Nat)), (.ref (764:Nat)), (.builtin "ExceptionGroup.__weakref__"), .none]), #[]⟩) ::
  (nat_lit 769, ⟨(.type "tuple"), none, (.seq #[] (0:Nat)), #[]⟩) ::
  (nat_lit 771, ⟨(.type "tuple"), none, (.seq #[(.str (Str.ofString "expected") (1191:Nat)), (.str (Str.ofString "actual") (1192:Nat)), (.str (Str.ofString "i") (1193:Nat)), (.str (Str.ofString "j") (1194:Nat)), (.str (Str.ofString "missing") (1195:Nat)), (.str (Str.ofString "unexpected") (1196:Nat)), (.str (Str.ofString "e") (1197:Nat)), (.str (Str.ofString "a") (1198:Nat))] (0:Nat)), #[]⟩) ::
  (nat_lit 772, ⟨(.type "tuple"), none, (.seq #[] (0:Nat)), #[]⟩) ::
  (nat_lit 774, ⟨(.type "code"), none, (.fields #[(.str (Str.ofString "sorted_list_difference") (1188:Nat)), (.str (Str.ofString "sorted_list_difference") (1189:Nat)), (.str (Str.ofString "/claim/cut.py") (1190:Nat)), (.int 797 (0:Nat)), (.int 2 (0:Nat)), (.int 0 (0:Nat)), (.int 0 (0:Nat)), (.int 3 (0:Nat)), (.ref (769:Nat)), (.bool true), (.int 273 (0:Nat)), (.ref (770:Nat)), .none, (.ref (771:Nat)), (.ref (772:Nat)), (.ref (773:Nat)), (.int 1199 (0:Nat)), (.int 797 (0:Nat)), (.str (Str.ofString "/claim/cut.py") (1200:Nat))]), #[]⟩) ::
  (nat_lit 775, ⟨(.type "function"), none, (.func (fnO (nthS TB 28) (Str.ofString "sorted_list_difference") (3:Nat) [] .none .none .none (.str (Str.ofString "cpy313.unittest.util") (1186:Nat)) none (.ref (774:Nat)) .none (0:Nat))), #[]⟩) ::
  (nat_lit 776, ⟨(.type "tuple"), none, (.seq #[] (0:Nat)), #[]⟩) ::
  (nat_lit 779, ⟨(.type "code"), none, (.fields #[(.str (Str.ofString "_law_text") (1204:Nat)), (.str (Str.ofString "_law_text") (1205:Nat)), (.str (Str.ofString "/claim/cut.py") (1206:Nat)), (.int 830 (0:Nat)), (.int 1 (0:Nat)), (.int 0 (0:Nat)), (.int 0 (0:Nat)), (.int 3 (0:Nat)), (.ref (776:Nat)), (.bool true), (.int 273 (0:Nat)), (.ref (777:Nat)), .none, .none, .none, (.ref (778:Nat)), (.int 1207 (0:Nat)), (.int 830 (0:Nat)), (.str (Str.ofString "/claim/cut.py") (1208:Nat))]), #[]⟩) ::
  (nat_lit 780, ⟨(.type "function"), none, (.func (fnO (nthS TB 30) (Str.ofString "_law_text") (3:Nat) [] .none .none .none (.str (Str.ofString "law_of0105_01") (1202:Nat)) none (.ref (779:Nat)) .none (0:Nat))), #[]⟩) ::
  (nat_lit 781, ⟨(.type "tuple"), none, (.seq #[] (0:Nat)), #[]⟩) ::
  (nat_lit 783, ⟨(.type "tuple"), none, (.seq #[(.str (Str.ofString "turn") (1213:Nat)), (.str (Str.ofString "text") (1214:Nat))] (0:Nat)), #[]⟩) ::
  (nat_lit 784, ⟨(.type "tuple"), none, (.seq #[] (0:Nat)), #[]⟩) ::
  (nat_lit 786, ⟨(.type "code"), none, (.fields #[(.str (Str.ofString "_law_escaped") (1210:Nat)), (.str (Str.ofString "_law_escaped") (1211:Nat)), (.str (Str.ofString "/claim/cut.py") (1212:Nat)), (.int 833 (0:Nat)), (.int 2 (0:Nat)), (.int 0 (0:Nat)), (.int 0 (0:Nat)), (.int 3 (0:Nat)), (.ref (781:Nat)), (.bool true), (.int 273 (0:Nat)), (.ref (782:Nat)), .none, (.ref (783:Nat)), (.ref (784:Nat)), (.ref (785:Nat)), (.int 1215 (0:Nat)), (.int 833 (0:Nat)), (.str (Str.ofString "/claim/cut.py") (1216:Nat))]), #[]⟩) ::
  (nat_lit 787, ⟨(.type "function"), none, (.func (fnO (nthS TB 31) (Str.ofString "_law_escaped") (3:Nat) [] .none .none .none (.str (Str.ofString "law_of0105_01") (1202:Nat)) none (.ref (786:Nat)) .none (0:Nat))), #[]⟩) ::
  (nat_lit 788, ⟨(.type "tuple"), none, (.seq #[] (0:Nat)), #[]⟩) ::
  (nat_lit 790, ⟨(.type "tuple"), none, (.seq #[(.str (Str.ofString "written") (1221:Nat)), (.str (Str.ofString "lexer") (1222:Nat)), (.str (Str.ofString "tokens") (1223:Nat)), (.str (Str.ofString "token") (1224:Nat))] (0:Nat)), #[]⟩) ::
  (nat_lit 791, ⟨(.type "tuple"), none, (.seq #[] (0:Nat)), #[]⟩) ::
  (nat_lit 793, ⟨(.type "code"), none, (.fields #[(.str (Str.ofString "_law_lexed") (1218:Nat)), (.str (Str.ofString "_law_lexed") (1219:Nat)), (.str (Str.ofString "/claim/cut.py") (1220:Nat)), (.int 843 (0:Nat)), (.int 1 (0:Nat)), (.int 0 (0:Nat)), (.int 0 (0:Nat)), (.int 3 (0:Nat)), (.ref (788:Nat)), (.bool true), (.int 273 (0:Nat)), (.ref (789:Nat)), .none, (.ref (790:Nat)), (.ref (791:Nat)), (.ref (792:Nat)), (.int 1225 (0:Nat)), (.int 843 (0:Nat)), (.str (Str.ofString "/claim/cut.py") (1226:Nat))]), #[]⟩) ::
  (nat_lit 794, ⟨(.type "function"), none, (.func (fnO (nthS TB 32) (Str.ofString "_law_lexed") (3:Nat) [] .none .none .none (.str (Str.ofString "law_of0105_01") (1202:Nat)) none (.ref (793:Nat)) .none (0:Nat))), #[]⟩) ::
  (nat_lit 795, ⟨(.type "tuple"), none, (.seq #[] (0:Nat)), #[]⟩) ::
  (nat_lit 798, ⟨(.type "code"), none, (.fields #[(.str (Str.ofString "_law_plain") (1228:Nat)), (.str (Str.ofString "_law_plain") (1229:Nat)), (.str (Str.ofString "/claim/cut.py") (1230:Nat)), (.int 851 (0:Nat)), (.int 2 (0:Nat)), (.int 0 (0:Nat)), (.int 0 (0:Nat)), (.int 3 (0:Nat)), (.ref (795:Nat)), (.bool true), (.int 273 (0:Nat)), (.ref (796:Nat)), .none, .none, .none, (.ref (797:Nat)), (.int 1231 (0:Nat)), (.int 851 (0:Nat)), (.str (Str.ofString "/claim/cut.py") (1232:Nat))]), #[]⟩) ::
  (nat_lit 799, ⟨(.type "function"), none, (.func (fnO (nthS TB 33) (Str.ofString "_law_plain") (3:Nat) [] .none .none .none (.str (Str.ofString "law_of0105_01") (1202:Nat)) none (.ref (798:Nat)) .none (0:Nat))), #[]⟩) ::
  (nat_lit 800, ⟨(.type "tuple"), none, (.seq #[] (0:Nat)), #[]⟩) ::
  (nat_lit 803, ⟨(.type "code"), none, (.fields #[(.str (Str.ofString "law") (1234:Nat)), (.str (Str.ofString "law") (1235:Nat)), (.str (Str.ofString "/claim/cut.py") (1236:Nat)), (.int 870 (0:Nat)), (.int 1 (0:Nat)), (.int 0 (0:Nat)), (.int 0 (0:Nat)), (.int 3 (0:Nat)), (.ref (800:Nat)), (.bool true), (.int 273 (0:Nat)), (.ref (801:Nat)), .none, .none, .none, (.ref (802:Nat)), (.int 1237 (0:Nat)), (.int 870 (0:Nat)), (.str (Str.ofString "/claim/cut.py") (1238:Nat))]), #[]⟩) ::
  (nat_lit 804, ⟨(.type "function"), none, (.func (fnO (nthS TB 34) (Str.ofString "law") (3:Nat) [] .none .none .none (.str (Str.ofString "law_of0105_01") (1202:Nat)) none (.ref (803:Nat)) .none (0:Nat))), #[]⟩) :: [] : List (Nat × Obj))
noncomputable def KA : List Nat := [2, 3, 33, 35, 36, 38, 39, 40, 42, 43, 45, 46, 47, 49, 50, 52, 53, 54, 56, 57, 59, 60, 61, 63, 64, 66, 67, 68, 70, 71, 73, 74, 75, 77, 78, 80, 81, 82, 84, 85, 87, 88, 89, 91, 92, 94, 95, 96, 103, 104, 105, 106, 116, 118, 119, 121, 122, 123, 124, 125, 126, 127, 128, 131, 138, 139, 140, 143, 150, 151, 152, 155, 162, 163, 165, 166, 168, 169, 170, 172, 173, 175, 176, 177, 179, 180, 182, 183, 184, 186, 187, 189, 190, 191, 192, 194, 195, 197, 198, 199, 201, 202, 204, 205, 206, 208, 209, 211, 212, 213, 215, 216, 218, 219, 220, 222, 223, 225, 226, 227, 229, 230, 232, 233, 234, 236, 237, 239, 240, 241, 243, 244, 246, 247, 248, 250, 251, 253, 254, 255, 257, 258, 260, 261, 262, 264, 265, 267, 268, 269, 271, 272, 274, 275, 276, 278, 279, 281, 282, 283, 284, 286, 287, 289, 290, 291, 292, 294, 295, 297, 298, 299, 300, 302, 303, 305, 306, 307, 308, 310, 311, 313, 314, 315, 317, 318, 320, 321, 322, 324, 325, 327, 328, 329, 330, 332, 333, 335, 336, 337, 338, 340, 341, 343, 344, 345, 347, 348, 350, 351, 352, 354, 355, 357, 358, 359, 361, 362, 364, 365, 366, 368, 369, 371, 372, 373, 375, 376, 378, 379, 380, 381, 382, 385, 392, 393, 395, 396, 398, 399, 400, 402, 403, 405, 406, 407, 409, 410, 412, 413, 414, 416, 417, 419, 420, 421, 423, 424, 426, 427, 428, 430, 431, 433, 434, 435, 436, 438, 439, 441, 442, 443, 444, 446, 447, 449, 450, 451, 452, 454, 455, 457, 458, 459, 460, 462, 463, 465, 466, 467, 468, 470, 471, 473, 474, 475, 477, 478, 480, 481, 482, 484, 485, 487, 488, 489, 491, 492, 494, 495, 496, 498, 499, 501, 502, 503, 505, 506, 508, 509, 510, 512, 513, 515, 516, 517, 519, 520, 522, 523, 524, 526, 527, 529, 530, 531, 533, 534, 536, 537, 538, 540, 541, 543, 544, 545, 547, 548, 550, 551, 552, 553, 555, 556, 558, 559, 560, 561, 563, 564, 566, 567, 568, 569, 571, 572, 574, 575, 576, 577, 579, 580, 582, 583, 584, 585, 587, 588, 590, 591, 592, 594, 595, 597, 598, 599, 601, 602, 604, 605, 606, 608, 609, 611, 612, 613, 615, 616, 618, 619, 620, 622, 623, 625, 626, 627, 628, 629, 632, 634, 635, 637, 638, 639, 641, 642, 644, 645, 646, 648, 649, 651, 652, 653, 655, 656, 658, 659, 660, 662, 663, 665, 666, 667, 669, 670, 672, 673, 681, 682, 684, 685, 687, 688, 689, 691, 692, 694, 695, 696, 697, 699, 700, 702, 703, 704, 705, 707, 708, 710, 711, 712, 714, 715, 717, 718, 719, 721, 722, 724, 725, 726, 728, 729, 731, 732, 733, 735, 736, 738, 739, 740, 741, 743, 744, 746, 747, 748, 750, 751, 753, 754, 755, 757, 758, 760, 761, 762, 763, 764, 765, 766, 769, 771, 772, 774, 775, 776, 779, 780, 781, 783, 784, 786, 787, 788, 790, 791, 793, 794, 795, 798, 799, 800, 803, 804]
/-- the text's statements that the walk reads -/
noncomputable def QV : Program := PySem.W.view PySem.Challenge.pw_of0105_01 [0, 1, 3, 4, 5, 6, 7, 8, 10, 11, 12, 13, 14, 15, 16, 17, 19, 20, 21, 22, 23, 24, 26, 28, 30, 31, 32, 33, 34]
abbrev LB : List Str := [Str.ofString "UnsupportedOperation", Str.ofString "IOBase", Str.ofString "BufferedIOBase",
        Str.ofString "TextIOBase", Str.ofString "BytesIO", Str.ofString "StringIO", Str.ofString "shlex"]
theorem KA_is : ∀ P, KA = (KF P).map (·.1) := fun _ => by kernel_rfl
noncomputable abbrev XT : Shared → Bool := fun s => xlAt QV [] s && recOk (RowW.records PySem.Challenge.rw_of0105_01.row.toRowW) s
set_option maxRecDepth 100000 in
set_option maxHeartbeats 8000000 in
theorem seen_is : ∀ w, seenAll PySem.Challenge.rw_of0105_01.row.toRowW.prog QV LB XT 10246 w = goodAll QV LB := fun w =>
  (congrFun (congrFun (congrFun (congrFun (congrFun (congrFun PySem.W.Fast.te17491102638781660497 _) _) _) _) _) _).trans
    (Eq.trans (by kernel_rfl) (congrFun (congrFun PySem.W.Fast.te6552742648179282513 _) _).symm)
set_option maxRecDepth 100000 in
set_option maxHeartbeats 8000000 in
theorem read_is : ∀ w, readAll PySem.Challenge.rw_of0105_01.row.toRowW.prog KA 10246 w = some (((KF w.params).map (·.2)).map some) := fun w =>
  (congrFun (congrFun (congrFun (congrFun PySem.W.Fast.te17047826115048744508 _) _) _) _).trans (by kernel_rfl)
theorem hl_is : LeftO PySem.Challenge.rw_of0105_01.row.toRowW.prog QV LB XT (fun s => KA.map s.heap.get?) (fun w => ((KF w.params).map (·.2)).map some) 10246 := left_of seen_is read_is

end Mine
end

-- A2
section
namespace Mine

theorem road_app (lk : Look) : ∀ (a b : List Stmt), noRoadLSs lk (a ++ b) = (noRoadLSs lk a && noRoadLSs lk b)
  | [], b => by rw [List.nil_append, noRoadLSs, Bool.true_and]
  | s :: r, b => by rw [List.cons_append, noRoadLSs, noRoadLSs, road_app lk r b, Bool.and_assoc]
/-- the look along the text's lines, cut in two (in the library's quick words) -/
theorem road_cut (k : Nat) {lk : Look} {l : List Stmt} (a : PySem.W.Fast.tw8326940854005059898 lk (l.take k) = true) (b : PySem.W.Fast.tw8326940854005059898 lk (l.drop k) = true) : PySem.W.Fast.tw8326940854005059898 lk l = true := by
  rw [← congrFun (congrFun PySem.W.Fast.te8326940854005059898 lk) _] at a b ⊢
  rw [← List.take_append_drop k l, road_app, a, b]
  rfl
theorem road_lk {lk lk' : Look} {l : List Stmt} (e : lk = lk') (h : PySem.W.Fast.tw8326940854005059898 lk' l = true) : PySem.W.Fast.tw8326940854005059898 lk l = true := e ▸ h
noncomputable abbrev RB : List Stmt := (PySem.W.Fast.tw2368527892694137696 PySem.Challenge.rw_of0105_01).prog.main.body
set_option maxRecDepth 100000 in
set_option maxHeartbeats 8000000 in
theorem road_is : PySem.W.Fast.tw8326940854005059898 { strict := false, foot := none } RB = true := by
  refine road_cut 20 ?_ (road_cut 2 ?_ (road_cut 2 ?_ (road_cut 1 ?_ (road_cut 5 ?_ ?_))))
  all_goals decide +kernel
set_option maxRecDepth 100000 in
set_option maxHeartbeats 8000000 in
theorem looks_is : PySem.W.Fast.tw12908688711261696721 (PySem.W.Fast.tw2368527892694137696 PySem.Challenge.rw_of0105_01).prog = true := by
  delta PySem.W.Fast.tw12908688711261696721
  repeat' (with_reducible refine look_both ?_ ?_)
  all_goals (first | (with_reducible refine road_lk (lk' := { strict := false, foot := none }) (by kernel_rfl) road_is) | decide +kernel)
set_option maxRecDepth 100000 in
set_option maxHeartbeats 8000000 in
theorem row_is : PySem.W.Fast.tw17960256430627541270 (PySem.W.Fast.tw2368527892694137696 PySem.Challenge.rw_of0105_01) = true := by
  delta PySem.W.Fast.tw17960256430627541270
  refine look_both (look_both ?_ (by decide +kernel)) (by decide +kernel)
  delta PySem.W.Fast.tw2436336058641802641
  repeat' (with_reducible refine look_both ?_ ?_)
  all_goals first | (with_reducible exact looks_is) | decide +kernel
set_option maxRecDepth 100000 in
set_option maxHeartbeats 8000000 in
theorem said_is : PySem.Challenge.rw_of0105_01.wellSaid = true := by
  refine (congrFun PySem.W.Fast.te9446332074065402090 _).trans ?_
  delta PySem.W.Fast.tw9446332074065402090
  repeat' (with_reducible refine look_both ?_ ?_)
  all_goals first | (with_reducible exact row_is) | decide +kernel
set_option maxRecDepth 100000 in
set_option maxHeartbeats 8000000 in
theorem fit_is : (chainsOk QV && opensWell PySem.Challenge.rw_of0105_01.row.prog && (frees PySem.Challenge.rw_of0105_01.row.toRowW && PySem.Challenge.rw_of0105_01.row.within.isEmpty)) = true := by
  repeat' (with_reducible refine look_both ?_ ?_)
  all_goals decide +kernel
set_option maxRecDepth 100000 in
set_option maxHeartbeats 8000000 in
theorem hd {d : DefRec} {kwd : List (Str × Expr)} (hdef : defOf QV PySem.Challenge.rw_of0105_01.row.name = some (d, kwd))
    (hp : PySem.Challenge.rw_of0105_01.row.prog.theDef PySem.Challenge.rw_of0105_01.row.name = some (d.params, d.body, d.scope)) (hk : kwWritten? d.params.kwonlyargs d.params.kw_defaults = some kwd)
    (call : WalkO QV LB (XL QV []) (Hook.says (kHook KF KA KA_is)) PySem.Challenge.rw_of0105_01.row.toRowW d kwd fun f vs => PySem.call f vs) : PySem.Challenge.rw_of0105_01.Holds := by
  refine holds_law said_is fun said => ?_
  refine holds_open (q := QV) (loose := LB) (Xt := XT) (XP := XL QV []) (Yf := Hook.obs (kHook KF KA KA_is)) (Ya := Hook.val (kHook KF KA KA_is)) (YP := Hook.says (kHook KF KA KA_is)) (N := 10246) ?hl (Hook.of (kHook KF KA KA_is)) (Hook.keeps (kHook KF KA KA_is)) (fun s e => xl_of s (Bool.and_eq_true_iff.mp e).1) XL.keeps hdef hp hk (fun s e => recFacts_of (Bool.and_eq_true_iff.mp e).2) (by rfl) said fit_is ⟨rfl, rfl, rfl, rfl, rfl, by decide +kernel⟩ ?hw call
  case hw => w_witness2
  case hl =>
    have h := hl_is
    simp only [List.map_map] at h
    exact h

end Mine
end

-- B0
section
namespace Mine

theorem lines_B0_0 : True := by
  k_with_none
  trivial
noncomputable abbrev LO : List Str := looseW QV
      [Str.ofString "UnsupportedOperation", Str.ofString "IOBase", Str.ofString "BufferedIOBase",
        Str.ofString "TextIOBase", Str.ofString "BytesIO", Str.ofString "StringIO", Str.ofString "shlex"]
/-- the dict of a text stream -/
abbrev sioD (P : Params) (k1 k2 k3 t1 t2 t3 : Nat) (buf : Str) (pos : Int) : Obj :=
  dictOf [⟨PyData.keyHash P (Str.ofString "_StringIO__newline"), .str (Str.ofString "_StringIO__newline") k1, .str (Str.ofString "\n") t1⟩,
    ⟨PyData.keyHash P (Str.ofString "_StringIO__buf"), .str (Str.ofString "_StringIO__buf") k2, .str buf t2⟩,
    ⟨PyData.keyHash P (Str.ofString "_StringIO__pos"), .str (Str.ofString "_StringIO__pos") k3, .int pos t3⟩] 3
/-- a call of a def of the text, from inside a def of the text -/
abbrev Ctr (w : World) (mean : ExcName → Option Value) (mg mb : Str → Option Value) (f : Addr) (args : List Value) (cost : Nat) (news : List (Addr × Obj)) (R : Heap → Addr → (Str → Option Value) → Heap → Value → Prop) : Prop :=
  ∀ (dp un : Nat) (gd : Option (List Code)) (cn : Str) (cs : Scope) (a : Addr) (ccd : Value) (cl : List (Str × Addr)) (outer : List Env) (A₀ : Around) (base h₀ : Heap) (L : Addr) (m : Str → Option Value) (s : Shared) (Q E : Value → Shared → Prop),
    Below A₀ base outer h₀ → Fr h₀ L s.heap m → (KF w.params).In h₀ → News h₀ L s.heap news → Top QV LO mean mg mb h₀ → cs.kind = .function →
    dp + cost < recursionLimit → un + 8 * cost < cLine → (∀ v h' tk', Fr h₀ L h' m → R h₀ L m h' v → Q v { s with heap := h', toks := tk' }) →
      wpAny (model PySem.Challenge.rw_of0105_01.row.prog w) (ktrTop dp un gd cn cs L a ccd cl outer) (call (.ref f) args) Q E s

theorem news_tail {h₀ h : Heap} {L : Addr} {p : Addr × Obj} {news : List (Addr × Obj)} (N : News h₀ L h (p :: news)) : News h₀ L h news := fun q hq => N q (.tail _ hq)
theorem ctr_use {w : World} {mean : ExcName → Option Value} {mg mb : Str → Option Value} {f : Addr} {args : List Value} {cost : Nat} {news : List (Addr × Obj)} {R : Heap → Addr → (Str → Option Value) → Heap → Value → Prop}
   {dp un : Nat} {gd : Option (List Code)} {cn : Str} {cs : Scope} {a : Addr} {ccd : Value} {cl : List (Str × Addr)} {outer : List Env} {A₀ : Around} {base h₀ : Heap} {L : Addr} {m : Str → Option Value} {s : Shared} {Q E : Value → Shared → Prop}
   (C : Ctr w mean mg mb f args cost news R) (B : Below A₀ base outer h₀) (F : Fr h₀ L s.heap m) (X : (KF w.params).In h₀) (N : News h₀ L s.heap news) (T : Top QV LO mean mg mb h₀) (hk : cs.kind = .function)
   (hd' : dp + cost < recursionLimit) (hu : un + 8 * cost < cLine) (ret : ∀ v h' tk', Fr h₀ L h' m → R h₀ L m h' v → Q v { s with heap := h', toks := tk' }) :
      wpAny (model PySem.Challenge.rw_of0105_01.row.prog w) (ktrTop dp un gd cn cs L a ccd cl outer) (call (.ref f) args) Q E s :=
  C _ _ _ _ _ _ _ _ _ _ _ _ _ _ _ _ _ B F X N T hk hd' hu ret
theorem ctr_use2 {w : World} {mean : ExcName → Option Value} {mg mb : Str → Option Value} {f : Addr} {args : List Value} {cost : Nat} {news : List (Addr × Obj)} {R : Heap → Addr → (Str → Option Value) → Heap → Value → Prop}
   {dp un : Nat} {gd : Option (List Code)} {cn : Str} {cs : Scope} {a : Addr} {ccd : Value} {cl : List (Str × Addr)} {outer : List Env} {A₀ : Around} {base h₀ : Heap} {L : Addr} {m : Str → Option Value} {s : Shared} {Q E : Value → Shared → Prop}
   (B : Below A₀ base outer h₀) (F : Fr h₀ L s.heap m) (X : (KF w.params).In h₀) (N : News h₀ L s.heap news) (T : Top QV LO mean mg mb h₀) (hk : cs.kind = .function)
   (hd' : dp + cost < recursionLimit) (hu : un + 8 * cost < cLine) (C : Ctr w mean mg mb f args cost news R) (ret : ∀ v h' tk', Fr h₀ L h' m → R h₀ L m h' v → Q v { s with heap := h', toks := tk' }) :
      wpAny (model PySem.Challenge.rw_of0105_01.row.prog w) (ktrTop dp un gd cn cs L a ccd cl outer) (call (.ref f) args) Q E s :=
  C _ _ _ _ _ _ _ _ _ _ _ _ _ _ _ _ _ B F X N T hk hd' hu ret

set_option maxRecDepth 100000 in
set_option maxHeartbeats 8000000 in
theorem index_c (w : World) (mean : ExcName → Option Value) (mg mb : Str → Option Value) (news : List (Addr × Obj)) (x : Int) (t t' : Tok) (y : Str) (hx : -1099511627776 ≤ x ∧ x ≤ 1099511627776) :
   Ctr w mean mg mb 95 [Value.int x t, Value.str y t'] 1 news (fun h₀ L _ h' v => News h₀ L h' news ∧ ∃ t, v = Value.int x t) := by
  unfold Ctr
  k_fill
  intro dp un gd cn cs a ccd cl outer A₀ base h₀ L m s Q E B F X N T hk hdp hun hret
  refine wpAny_call ?_
  k_dflt cell_enter
  k_steps
  all_goals (exact hret _ _ _ (by k_asm) ⟨by k_asm, _, rfl⟩)

end Mine
end

-- B1
section
namespace Mine

theorem lines_B1_0 : True := by
  k_with_none
  trivial
abbrev sioN (P : Params) (x dx k1 k2 k3 t1 t2 t3 : Nat) (buf : Str) (pos : Int) (rest : List (Addr × Obj)) : List (Addr × Obj) :=
  (x, instObj 629 dx) :: (dx, sioD P k1 k2 k3 t1 t2 t3 buf pos) :: rest
theorem slice_one {buf : Str} {pos : Int} {c : Nat} {r : List Nat} (h0 : 0 ≤ pos) (hd : buf.cps.toList.drop pos.toNat = c :: r) : Txt.slice buf (some pos) (some (pos + 1)) = ⟨#[c]⟩ := by
  have hl : pos.toNat < buf.cps.toList.length := by
    rcases Nat.lt_or_ge pos.toNat buf.cps.toList.length with h | h
    · exact h
    · rw [List.drop_eq_nil_of_le h] at hd; cases hd
  have e : (pos + 1 - pos).toNat = 1 := by omega
  have := StrLaws.sliceText_plain (x := buf) (i := pos) (j := pos + 1) ⟨h0, by omega, by omega⟩
  rw [e, hd] at this
  exact this
theorem drop_lt {buf : Str} {pos : Int} {c : Nat} {r : List Nat} (h0 : 0 ≤ pos) (hd : buf.cps.toList.drop pos.toNat = c :: r) : pos < (buf.length : Int) := by
  have hl : pos.toNat < buf.cps.toList.length := by
    rcases Nat.lt_or_ge pos.toNat buf.cps.toList.length with h | h
    · exact h
    · rw [List.drop_eq_nil_of_le h] at hd; cases hd
  have : buf.cps.toList.length = buf.length := by simp [Str.length]
  omega
theorem drop_ge {buf : Str} {pos : Int} (h0 : 0 ≤ pos) (hd : buf.cps.toList.drop pos.toNat = []) : (buf.length : Int) ≤ pos := by
  have hl := List.drop_eq_nil_iff.mp hd
  have : buf.cps.toList.length = buf.length := by simp [Str.length]
  omega
theorem lines_B1_1 : True := by
  k_with "call ref" => (k_here; (try dsimp only); (with_reducible show wpAny _ _ (call (Value.ref 95) [Value.int _ _, Value.str _ _] _) _ _ _); k_dflt (refine' ctr_use2 (by k_asm) (by k_asm) (by k_asm) (by first | k_asm | exact news_tail (by k_asm)) (by k_asm) (by first | exact rfl | assumption) (by ktr_room) (by ktr_units) (index_c _ _ _ _ _ _ _ _ _ (by first | omega | decide)) ?_); rintro _ _ _ _ ⟨_, _, rfl⟩; (try dsimp only); (try k_fold))
  trivial
set_option maxRecDepth 100000 in
set_option maxHeartbeats 8000000 in
theorem check_c (w : World) (mean : ExcName → Option Value) (mg mb : Str → Option Value) (rest : List (Addr × Obj)) (x dx k1 k2 k3 t1 t2 t3 : Nat) (buf : Str) (pos : Int) :
   Ctr w mean mg mb 413 [.ref x] 1 (sioN w.params x dx k1 k2 k3 t1 t2 t3 buf pos rest)
     (fun h₀ L _ h' v => v = .none ∧ News h₀ L h' (sioN w.params x dx k1 k2 k3 t1 t2 t3 buf pos rest)) := by
  unfold Ctr
  k_fill
  intro dp un gd cn cs a ccd cl outer A₀ base h₀ L m s Q E B F X N T hk hdp hun hret
  refine wpAny_call ?_
  k_dflt (refine' code_def ?k1 ?k2 ?k3 ?k4 ?k5 ?kA ?kF ?kK ?k6 ?k7 ?k8 ?k9 ?kB ?_ ?c2 ?c3 ?c4 ?c5; (case kA => exact rfl); (case kF => exact rfl); (case kK => assumption); (case k1 => k_asm); (case k2 => k_asm); (case k3 => k_asm); (case k4 => k_asm); (case k5 => k_asm); (case k6 => k_is); (case k7 => k_is); (case k8 => ktr_room); (case k9 => exact kp_binds (binds := [(Str.ofString "self", .ref x)]) (X.keeps F.keep) (fun S => by kernel_rfl)); (case c5 => decide); (case kB => exact locs rfl); (case c2 => exact rfl); (case c3 => exact rfl); (case c4 => exact rfl); k_whole; intro g' L' h' FG' F' N' B' X' T'; (try dsimp only); (try k_lift B'); (try k_fold))
  k_steps
  all_goals exact hret _ _ _ (by k_asm) ⟨rfl, by k_asm⟩
theorem lines_B1_2 : True := by
  k_with "call ref" => (k_here; (try dsimp only); (with_reducible show wpAny _ _ (call (Value.ref 413) _ _) _ _ _); k_dflt (refine' ctr_use2 (by k_asm) (by k_asm) (by k_asm) (by first | k_asm | exact news_tail (by k_asm)) (by k_asm) (by first | exact rfl | assumption) (by ktr_room) (by ktr_units) (check_c _ _ _ _ _ _ _ _ _ _ _ _ _ _ _) ?_); rintro _ _ _ _ ⟨rfl, _⟩; (try dsimp only); (try k_fold))
  trivial
set_option maxRecDepth 100000 in
set_option maxHeartbeats 8000000 in
theorem read_c (w : World) (mean : ExcName → Option Value) (mg mb : Str → Option Value) (rest : List (Addr × Obj)) (t : Tok) (x dx k1 k2 k3 t1 t2 t3 : Nat) (buf : Str) (pos : Int) (c : Nat) (r : List Nat)
   (hdx : ∀ p ∈ rest, p.1 ≠ dx) (hxd : dx < x) (hpos : 0 ≤ pos) (hr : buf.cps.toList.drop pos.toNat = c :: r) (hln : buf.length ≤ 1000) :
   Ctr w mean mg mb 575 [.ref x, .int 1 t] 3 (sioN w.params x dx k1 k2 k3 t1 t2 t3 buf pos rest)
     (fun h₀ L _ h' v => (∃ t, v = .str ⟨#[c]⟩ t) ∧ ∃ t3', News h₀ L h' (sioN w.params x dx k1 k2 k3 t1 t2 t3' buf (pos + 1) rest)) := by
  have hlt := drop_lt hpos hr
  unfold Ctr
  k_fill
  intro dp un gd cn cs a ccd cl outer A₀ base h₀ L m s Q E B F X N T hk hdp hun hret
  refine wpAny_call ?_
  k_dflt (refine' code_def ?k1 ?k2 ?k3 ?k4 ?k5 ?kA ?kF ?kK ?k6 ?k7 ?k8 ?k9 ?kB ?_ ?c2 ?c3 ?c4 ?c5; (case kA => exact rfl); (case kF => exact rfl); (case kK => assumption); (case k1 => k_asm); (case k2 => k_asm); (case k3 => k_asm); (case k4 => k_asm); (case k5 => k_asm); (case k6 => k_is); (case k7 => k_is); (case k8 => ktr_room); (case k9 => exact kp_binds (binds := [(Str.ofString "self", .ref x), (Str.ofString "size", .int 1 t)]) (X.keeps F.keep) (fun S => by kernel_rfl)); (case c5 => decide); (case kB => exact locs rfl); (case c2 => exact rfl); (case c3 => exact rfl); (case c4 => exact rfl); k_whole; intro g' L' h' FG' F' N' B' X' T'; (try dsimp only); (try k_lift B'); (try k_fold))
  k_steps
  · exact hret _ _ _ (by k_asm) ⟨⟨_, by rw [slice_one hpos hr]⟩, _, by k_asm⟩
  · have e1 : (buf.length : Int) = pos + 1 := by omega
    have e2 := slice_one hpos hr
    rw [← e1] at hret e2
    exact hret _ _ _ (by k_asm) ⟨⟨_, by rw [e2]⟩, _, by k_asm⟩
set_option maxRecDepth 100000 in
set_option maxHeartbeats 8000000 in
theorem read_end (w : World) (mean : ExcName → Option Value) (mg mb : Str → Option Value) (rest : List (Addr × Obj)) (t : Tok) (x dx k1 k2 k3 t1 t2 t3 : Nat) (buf : Str) (pos : Int)
   (hxd : dx < x) (hpos : 0 ≤ pos) (hr : buf.cps.toList.drop pos.toNat = []) (hln : buf.length ≤ 1000) :
   Ctr w mean mg mb 575 [.ref x, .int 1 t] 3 (sioN w.params x dx k1 k2 k3 t1 t2 t3 buf pos rest)
     (fun h₀ L _ h' v => (∃ t, v = .str (Str.ofString "") t) ∧ News h₀ L h' (sioN w.params x dx k1 k2 k3 t1 t2 t3 buf pos rest)) := by
  have hlt := drop_ge hpos hr
  unfold Ctr
  k_fill
  intro dp un gd cn cs a ccd cl outer A₀ base h₀ L m s Q E B F X N T hk hdp hun hret
  refine wpAny_call ?_
  k_dflt (refine' code_def ?k1 ?k2 ?k3 ?k4 ?k5 ?kA ?kF ?kK ?k6 ?k7 ?k8 ?k9 ?kB ?_ ?c2 ?c3 ?c4 ?c5; (case kA => exact rfl); (case kF => exact rfl); (case kK => assumption); (case k1 => k_asm); (case k2 => k_asm); (case k3 => k_asm); (case k4 => k_asm); (case k5 => k_asm); (case k6 => k_is); (case k7 => k_is); (case k8 => ktr_room); (case k9 => exact kp_binds (binds := [(Str.ofString "self", .ref x), (Str.ofString "size", .int 1 t)]) (X.keeps F.keep) (fun S => by kernel_rfl)); (case c5 => decide); (case kB => exact locs rfl); (case c2 => exact rfl); (case c3 => exact rfl); (case c4 => exact rfl); k_whole; intro g' L' h' FG' F' N' B' X' T'; (try dsimp only); (try k_lift B'); (try k_fold))
  k_steps
  all_goals exact hret _ _ _ (by k_asm) ⟨⟨_, rfl⟩, by k_asm⟩
def afterLine : List Nat → List Nat
  | [] => []
  | c :: r => if c = 10 then r else afterLine r
theorem afterLine_none : ∀ (r : List Nat), (∀ k : Nat, r[k]? ≠ some 10) → afterLine r = []
  | [], _ => rfl
  | c :: r, h => by
    have h0 : c ≠ 10 := fun e => h 0 (by simp [e])
    rw [afterLine, if_neg h0]
    exact afterLine_none r fun k => by simpa using h (k + 1)
theorem afterLine_some : ∀ (r : List Nat) (i : Nat), r[i]? = some 10 → (∀ k, k < i → r[k]? ≠ some 10) → afterLine r = r.drop (i + 1)
  | [], i, h, _ => by simp at h
  | c :: r, 0, h, _ => by
    have h0 : c = 10 := by simpa using h
    rw [afterLine, if_pos h0]; rfl
  | c :: r, i + 1, h, hn => by
    have h0 : c ≠ 10 := fun e => hn 0 (by omega) (by simp [e])
    rw [afterLine, if_neg h0, List.drop_succ_cons]
    exact afterLine_some r i (by simpa using h) fun k hk => by simpa using hn (k + 1) (by omega)
theorem gives_find4 (x y : Str) (i : Int) (t u v v' : Tok) : Gives (Builtin.«str.find» ⟨[.str x t, .str y u, .int i v, .int x.length v'], []⟩) (.int (Txt.find3 x y i)) := by
  have e : min ((max 0 (if (x.length : Int) < 0 then (x.length : Int) + x.length else x.length)).toNat) x.length = x.length := by
    rw [if_neg (by omega)]; omega
  show Gives (match Builtin.Str.occurrences x y (fromIndex x.length i) (min ((max 0 (if (x.length : Int) < 0 then (x.length : Int) + x.length else x.length)).toNat) x.length) 1 with | k :: _ => retInt k | [] => (do rule "str.find.not-found"; retInt (-1))) _
  rw [e]
  unfold Txt.find3
  cases Builtin.Str.occurrences x y (fromIndex x.length i) x.length 1 with
  | nil => exact .rule (.of_eq rfl)
  | cons k _ => exact .of_eq rfl
theorem find4 {prog : Program} {w : World} {A : Around} {E : Value → Shared → Prop} {s : Shared} {x y : Str} {t u v v' : Tok} {i : Int} {Q : Value → Shared → Prop}
    (hq : Q (.int (Txt.find3 x y i) s.toks) { s with toks := s.toks + 1 }) : wpAny (model prog w) A (call (.builtin "str.find") [.str x t, .str y u, .int i v, .int x.length v']) Q E s :=
  call_gives F.slot_str_find (typeIs_str _ _ _) F.entry_str_find (F.args_str_find_4 _ _ _ _) (gives_find4 x y i t u v v') hq
theorem line_pos {buf : Str} {pos i : Int} (hpos : 0 ≤ pos) (e : Txt.find3 buf (Str.ofString "\n") pos = i) :
    (i < 0 → afterLine (buf.cps.toList.drop pos.toNat) = []) ∧ (0 ≤ i → i < buf.length ∧ afterLine (buf.cps.toList.drop pos.toNat) = buf.cps.toList.drop (i + 1).toNat) := by
  have en : Str.ofString "\n" = ⟨#[10]⟩ := by decide +kernel
  have ef : fromIndex buf.length pos = pos.toNat := by unfold fromIndex; rw [if_neg (by omega)]; omega
  have hl : buf.cps.toList.length = buf.length := by simp [Str.length]
  rw [en] at e
  rcases StrLaws.find3_spec buf 10 pos with ⟨h1, h2⟩ | h
  · rw [h1] at e
    refine ⟨fun _ => afterLine_none _ fun k hk => ?_, fun h => absurd h (by omega)⟩
    rw [List.getElem?_drop] at hk
    have hlt : pos.toNat + k < buf.length := by
      obtain ⟨q, _⟩ := List.getElem?_eq_some_iff.mp hk
      omega
    exact h2 _ (by omega) hlt (StrLaws.getD_of_getElem? hk)
  · obtain ⟨k, h1, h2, h3, h4, h5⟩ := h
    rw [h1] at e
    rw [ef] at h2 h5
    subst e
    refine ⟨fun h => absurd h (by omega), fun _ => ⟨by omega, ?_⟩⟩
    have hk := StrLaws.getElem?_of_getD h3 h4
    rw [afterLine_some _ (k - pos.toNat) (by rw [List.getElem?_drop, show pos.toNat + (k - pos.toNat) = k by omega]; exact hk) (fun v hv => ?_), List.drop_drop, show pos.toNat + (k - pos.toNat + 1) = ((k : Int) + 1).toNat by omega]
    intro q
    rw [List.getElem?_drop] at q
    exact h5 _ (by omega) (by omega) (StrLaws.getD_of_getElem? q)
theorem lines_B1_3 : True := by
  k_with "call builtin:str.find" => (k_here; refine find4 ?_)
  trivial
set_option maxRecDepth 100000 in
set_option maxHeartbeats 8000000 in
theorem line_c (w : World) (mean : ExcName → Option Value) (mg mb : Str → Option Value) (rest : List (Addr × Obj)) (t : Tok) (x dx k1 k2 k3 t1 t2 t3 : Nat) (buf : Str) (pos : Int)
   (hdx : ∀ p ∈ rest, p.1 ≠ dx) (hxd : dx < x) (hpos : 0 ≤ pos) (hln : buf.length ≤ 1000) :
   Ctr w mean mg mb 427 [.ref x, .int (-1) t] 1 (sioN w.params x dx k1 k2 k3 t1 t2 t3 buf pos rest)
     (fun h₀ L _ h' v => (∃ y t, v = .str y t) ∧ ∃ t3' pos', 0 ≤ pos' ∧ buf.cps.toList.drop pos'.toNat = afterLine (buf.cps.toList.drop pos.toNat) ∧ News h₀ L h' (sioN w.params x dx k1 k2 k3 t1 t2 t3' buf pos' rest)) := by
  unfold Ctr
  k_fill
  intro dp un gd cn cs a ccd cl outer A₀ base h₀ L m s Q E B F X N T hk hdp hun hret
  refine wpAny_call ?_
  k_dflt (refine' code_def ?k1 ?k2 ?k3 ?k4 ?k5 ?kA ?kF ?kK ?k6 ?k7 ?k8 ?k9 ?kB ?_ ?c2 ?c3 ?c4 ?c5; (case kA => exact rfl); (case kF => exact rfl); (case kK => assumption); (case k1 => k_asm); (case k2 => k_asm); (case k3 => k_asm); (case k4 => k_asm); (case k5 => k_asm); (case k6 => k_is); (case k7 => k_is); (case k8 => ktr_room); (case k9 => exact kp_binds (binds := [(Str.ofString "self", .ref x), (Str.ofString "limit", .int (-1) t)]) (X.keeps F.keep) (fun S => by kernel_rfl)); (case c5 => decide); (case kB => exact locs rfl); (case c2 => exact rfl); (case c3 => exact rfl); (case c4 => exact rfl); k_whole; intro g' L' h' FG' F' N' B' X' T'; (try dsimp only); (try k_lift B'); (try k_fold))
  k_steps
  · refine hret _ _ _ (by k_asm) ⟨⟨_, _, rfl⟩, _, pos, hpos, ?_, by k_asm⟩
    rw [List.drop_eq_nil_of_le (by simp only [Array.length_toList]; show buf.length ≤ _; omega)]; rfl
  · have q := line_pos hpos (Eq.refl (Txt.find3 buf (Str.ofString "\n") pos))
    have q2 := q.2 (by omega)
    refine hret _ _ _ (by k_asm) ⟨⟨_, _, rfl⟩, _, _, ?_, ?_, by k_asm⟩
    · have : ((1 : Nat) : Int) = 1 := rfl
      omega
    · exact q2.2.symm
  · have q := line_pos hpos (Eq.refl (Txt.find3 buf (Str.ofString "\n") pos))
    have q2 := q.1 (by omega)
    refine hret _ _ _ (by k_asm) ⟨⟨_, _, rfl⟩, _, _, ?_, ?_, by k_asm⟩
    · omega
    · rw [q2, List.drop_eq_nil_of_le (by simp only [Array.length_toList]; show buf.length ≤ _; omega)]
theorem lines_B1_4 : True := by
  k_with "call ref" => (k_here; (try dsimp only); (with_reducible show wpAny _ _ (call (Value.ref 427) _ _) _ _ _); k_dflt (refine' ctr_use2 (by k_asm) (by k_asm) (by k_asm) (by first | k_asm | exact news_tail (by k_asm)) (by k_asm) (by first | exact rfl | assumption) (by ktr_room) (by ktr_units) (line_c _ _ _ _ _ _ _ _ _ _ _ _ _ _ _ _ (by assumption) (by omega) (by omega) (by omega)) ?_); rintro _ _ _ _ ⟨⟨_, _, rfl⟩, _, _, _, _, _⟩; (try dsimp only); (try k_fold))
  trivial
set_option maxRecDepth 100000 in
set_option maxHeartbeats 8000000 in
theorem readline_c (w : World) (mean : ExcName → Option Value) (mg mb : Str → Option Value) (rest : List (Addr × Obj)) (x dx k1 k2 k3 t1 t2 t3 : Nat) (buf : Str) (pos : Int)
   (hdx : ∀ p ∈ rest, p.1 ≠ dx) (hxd : dx < x) (hpos : 0 ≤ pos) (hln : buf.length ≤ 1000) :
   Ctr w mean mg mb 583 [.ref x] 3 (sioN w.params x dx k1 k2 k3 t1 t2 t3 buf pos rest)
     (fun h₀ L _ h' v => (∃ y t, v = .str y t) ∧ ∃ t3' pos', 0 ≤ pos' ∧ buf.cps.toList.drop pos'.toNat = afterLine (buf.cps.toList.drop pos.toNat) ∧ News h₀ L h' (sioN w.params x dx k1 k2 k3 t1 t2 t3' buf pos' rest)) := by
  unfold Ctr
  k_fill
  intro dp un gd cn cs a ccd cl outer A₀ base h₀ L m s Q E B F X N T hk hdp hun hret
  refine wpAny_call ?_
  k_dflt (refine' code_def ?k1 ?k2 ?k3 ?k4 ?k5 ?kA ?kF ?kK ?k6 ?k7 ?k8 ?k9 ?kB ?_ ?c2 ?c3 ?c4 ?c5; (case kA => exact rfl); (case kF => exact rfl); (case kK => assumption); (case k1 => k_asm); (case k2 => k_asm); (case k3 => k_asm); (case k4 => k_asm); (case k5 => k_asm); (case k6 => k_is); (case k7 => k_is); (case k8 => ktr_room); (case k9 => exact kp_binds (binds := [(Str.ofString "self", .ref x), (Str.ofString "size", .int (-1) 919)]) (X.keeps F.keep) (fun S => by kernel_rfl)); (case c5 => decide); (case kB => exact locs rfl); (case c2 => exact rfl); (case c3 => exact rfl); (case c4 => exact rfl); k_whole; intro g' L' h' FG' F' N' B' X' T'; (try dsimp only); (try k_lift B'); (try k_fold))
  k_steps
  all_goals exact hret _ _ _ (by k_asm) ⟨⟨_, _, rfl⟩, _, _, by assumption, by assumption, by k_asm⟩

end Mine
end

-- F0
section
/-! the lexer on lists of signs: no program in sight -/
namespace Mine
def isWsC (c : Nat) : Bool := c == 32 || c == 9 || c == 13 || c == 10
def isPunC (c : Nat) : Bool := c == 38 || c == 59 || c == 60 || c == 62
def isWordC (c : Nat) : Bool := (48 ≤ c && c ≤ 57) || (65 ≤ c && c ≤ 90) || (97 ≤ c && c ≤ 122)
def goodC (c : Nat) : Bool := isWsC c || c == 35 || isPunC c || isWordC c
/-- what one reading of a token comes to -/
structure RT where
  tok : List Nat
  ended : Bool
  push : Option Nat
  rest : List Nat
  lines : Nat
def RT.more (o : RT) : RT := { o with lines := o.lines + 1 }
def rdA (tok : List Nat) : List Nat → RT
  | [] => ⟨tok, true, none, [], 0⟩
  | c :: r => if c = 10 then ⟨tok, false, none, r, 1⟩ else if isWsC c then ⟨tok, false, none, r, 0⟩ else if c = 35 then ⟨tok, false, none, afterLine r, 1⟩
      else if isWordC c then rdA (tok ++ [c]) r else ⟨tok, false, some c, r, 0⟩
/-- between tokens; skipping a remark -/
def rdS : Bool → List Nat → RT
  | _, [] => ⟨[], true, none, [], 0⟩
  | true, c :: r => if c = 10 then rdS false r else rdS true r
  | false, c :: r => if c = 10 then (rdS false r).more else if isWsC c then rdS false r else if c = 35 then (rdS true r).more
      else if isWordC c then rdA [c] r else ⟨[c], false, none, r, 0⟩
theorem rdS_skip : ∀ r, rdS true r = rdS false (afterLine r)
  | [] => rfl
  | c :: r => by
    rw [rdS, afterLine]
    split
    · rfl
    · exact rdS_skip r
theorem afterLine_len : ∀ r, (afterLine r).length ≤ r.length
  | [] => Nat.le_refl _
  | c :: r => by
    rw [afterLine]
    split
    · simp
    · have := afterLine_len r
      simp only [List.length_cons]; omega
theorem afterLine_good : ∀ {r : List Nat}, (∀ c ∈ r, goodC c = true) → ∀ c ∈ afterLine r, goodC c = true
  | [], h => h
  | c :: r, h => by
    rw [afterLine]
    split
    · exact fun x hx => h x (.tail _ hx)
    · exact afterLine_good fun x hx => h x (.tail _ hx)
theorem rdA_ne : ∀ (r tok : List Nat), tok ≠ [] → (rdA tok r).tok ≠ []
  | [], _, h => h
  | c :: r, tok, h => by
    rw [rdA]
    repeat' split
    all_goals first | exact h | exact rdA_ne r _ (by simp)
end Mine
end

-- D0
section
namespace Mine

theorem lines_D0_0 : True := by
  k_with_none
  trivial
abbrev deq0 (st : Int) : Obj := { cls := .type "collections.deque", data := .fields #[.none, .int st 0] }
abbrev deq1 (st : Int) (v : Value) : Obj := { cls := .type "collections.deque", data := .fields #[.none, .int st 0, v] }
set_option maxRecDepth 100000
theorem noBool_deque : typeLookup (.type "collections.deque") "__bool__" = pure none := by rw [typeLookup_type, builtinLookup_eq_fast]; kernel_rfl
theorem slot_deque_len : Slot "collections.deque" "__len__" "collections.deque.__len__" :=
  .of (owner := "collections.deque") (n := "__len__") (by rw [typeLookup_type, builtinLookup_eq_fast]; kernel_rfl) (by decide +kernel) (by decide +kernel) (by decide +kernel)
    (by first | exact .inl (by decide +kernel) | exact .inr (by decide +kernel)) (by rw [isSubtype_type]; kernel_rfl)
theorem entry_deque_len : entryFor table "collections.deque.__len__" = some Builtin.«collections.deque.__len__» := entryFor_of_fast (by kernel_rfl)
theorem args_deque_len (a : Value) : argsOk "collections.deque.__len__" ⟨[a], []⟩ := by unfold argsOk; kernel_rfl
theorem slot_deque_appendleft : Slot "collections.deque" "appendleft" "collections.deque.appendleft" :=
  .of (owner := "collections.deque") (n := "appendleft") (by rw [typeLookup_type, builtinLookup_eq_fast]; kernel_rfl) (by decide +kernel) (by decide +kernel) (by decide +kernel)
    (by first | exact .inl (by decide +kernel) | exact .inr (by decide +kernel)) (by rw [isSubtype_type]; kernel_rfl)
theorem entry_deque_appendleft : entryFor table "collections.deque.appendleft" = some Builtin.«collections.deque.appendleft» := entryFor_of_fast (by kernel_rfl)
theorem args_deque_appendleft (a b : Value) : argsOk "collections.deque.appendleft" ⟨[a, b], []⟩ := by unfold argsOk; kernel_rfl
theorem type_deque_appendleft : typeOf (.builtin "collections.deque.appendleft") = pure (.type "method_descriptor") := by show builtinType _ = _; rw [builtinType_eq_fast]; kernel_rfl
theorem slot_deque_popleft : Slot "collections.deque" "popleft" "collections.deque.popleft" :=
  .of (owner := "collections.deque") (n := "popleft") (by rw [typeLookup_type, builtinLookup_eq_fast]; kernel_rfl) (by decide +kernel) (by decide +kernel) (by decide +kernel)
    (by first | exact .inl (by decide +kernel) | exact .inr (by decide +kernel)) (by rw [isSubtype_type]; kernel_rfl)
theorem entry_deque_popleft : entryFor table "collections.deque.popleft" = some Builtin.«collections.deque.popleft» := entryFor_of_fast (by kernel_rfl)
theorem args_deque_popleft (a : Value) : argsOk "collections.deque.popleft" ⟨[a], []⟩ := by unfold argsOk; kernel_rfl
theorem type_deque_popleft : typeOf (.builtin "collections.deque.popleft") = pure (.type "method_descriptor") := by show builtinType _ = _; rw [builtinType_eq_fast]; kernel_rfl
theorem deque_getattribute : typeLookup (.type "collections.deque") "__getattribute__" = pure (some (.builtin "collections.deque.__getattribute__")) := by rw [typeLookup_type, builtinLookup_eq_fast]; kernel_rfl
theorem canon_deque_getattribute : (Manifest.canonical "collections.deque.__getattribute__" != "object.__getattribute__") = false := by decide +kernel
theorem deque_getattr_none : typeLookup (.type "collections.deque") "__getattr__" = pure none := by rw [typeLookup_type, builtinLookup_eq_fast]; kernel_rfl

end Mine
end

-- D1
section
namespace Mine

theorem lines_D1_0 : True := by
  k_with_none
  trivial
open PySem.Builtin
theorem plainAttrs_deque : PlainAttrs "collections.deque" := ⟨⟨_, deque_getattribute, canon_deque_getattribute⟩, deque_getattr_none⟩
section
variable {prog : Program} {w : World} {A : Around} {E : Value → Shared → Prop} {s : Shared} {h₀ : Heap} {L d : Addr} {m : Str → Option Value} {news news' : List (Addr × Obj)}
theorem getMethod_appendleft {o : Obj} {pl : Sem Bool} {Q : Value × List Value → Shared → Prop} (N : News h₀ L s.heap news) (hm : (d, o) ∈ news) (hc : o.cls = .type "collections.deque") (hd : o.dict = none)
    (h : Q (.builtin "collections.deque.appendleft", [.ref d]) s) : wpAny (model prog w) A (getMethod (.ref d) "appendleft" pl) Q E s :=
  getMethod_builtin ⟨_, N.get hm, hc⟩ plainAttrs_deque slot_deque_appendleft type_deque_appendleft (fun a e => by cases e; exact ⟨_, N.get hm, hd⟩) h
theorem getMethod_popleft {o : Obj} {pl : Sem Bool} {Q : Value × List Value → Shared → Prop} (N : News h₀ L s.heap news) (hm : (d, o) ∈ news) (hc : o.cls = .type "collections.deque") (hd : o.dict = none)
    (h : Q (.builtin "collections.deque.popleft", [.ref d]) s) : wpAny (model prog w) A (getMethod (.ref d) "popleft" pl) Q E s :=
  getMethod_builtin ⟨_, N.get hm, hc⟩ plainAttrs_deque slot_deque_popleft type_deque_popleft (fun a e => by cases e; exact ⟨_, N.get hm, hd⟩) h

theorem truthy_deque {Q : Bool → Shared → Prop} {vs : Array Value} {o : Obj} (ho : s.heap.get? d = some o) (hc : o.cls = .type "collections.deque") (hdt : o.data = .fields vs) (hfit : ((vs.size - 2 : Nat) : Int) < 2 ^ 63)
    (h : Q (((vs.size - 2 : Nat) : Int) != 0) { s with toks := s.toks + 1 + 1 }) : wpAny (model prog w) A (truthy (.ref d)) Q E s := by
  have hT : s.TypeIs (.ref d) "collections.deque" := ⟨_, ho, hc⟩
  have key : wpAny (model prog w) A (runValue (.builtin "len" ⟨[.ref d], []⟩)) (fun r s' => r = .int (vs.size - 2 : Nat) (s.toks + 1) ∧ Q (((vs.size - 2 : Nat) : Int) != 0) s') E s := by
    refine wpAny_runValue (codeAny_builtin entry_len ?_)
    rw [Around.under_plainId plain_len _]
    unfold Builtin.«len»
    refine wpAny_bind (m := oneArg "len" _) (wpAny_pure ?_)
    refine wpAny_bind (m := callSpecial? (.ref d) (Str.ofString "__len__")) (wpAny_callSpecial?_slot (name := Str.ofString "__len__") hT slot_deque_len
      (wpAny_call_entry slot_deque_len hT entry_deque_len ?_ (args_deque_len _)))
    show wpAny _ _ (do retInt (← Deque.size (.ref d))) _ _ s
    unfold Deque.size
    refine wpAny_bind (wpAny_bind (wpAny_fieldsOf ho hdt ?_))
    refine wpAny_pure (wpAny_bind (wpAny_mkInt (wpAny_pure ⟨_, rfl, ?_⟩)))
    refine wpAny_bind (wpAny_holding (wpAny_pure ?_))
    refine wpAny_bind (wpAny_letGo ?_)
    show wpAny _ _ (if ((vs.size - 2 : Nat) : Int) < 0 then _ else _) _ _ _
    rw [if_neg (by omega)]
    show wpAny _ _ (if ((vs.size - 2 : Nat) : Int) ≥ 2 ^ 63 then _ else _) _ _ _
    rw [if_neg (by omega)]
    exact wpAny_bind (wpAny_mkInt (wpAny_pure ⟨rfl, h⟩))
  unfold truthy
  refine wpAny_bind (wpAny_callSpecial?_none (name := Str.ofString "__bool__") hT noBool_deque ?_)
  refine wpAny_bind (wpAny_specialOf (name := Str.ofString "__len__") hT slot_deque_len.lookup ?_)
  exact wpAny_bind (wpAny_mono key (fun r s' h' => by obtain ⟨rfl, hq⟩ := h'; exact wpAny_pure hq) fun _ _ e => e)
theorem truthy_deq0 {Q : Bool → Shared → Prop} {st : Int} (N : News h₀ L s.heap news) (hm : (d, deq0 st) ∈ news) (h : Q false { s with toks := s.toks + 1 + 1 }) : wpAny (model prog w) A (truthy (.ref d)) Q E s :=
  truthy_deque (N.get hm) rfl rfl (by show ((2 - 2 : Nat) : Int) < 2 ^ 63; decide) h
theorem truthy_deq1 {Q : Bool → Shared → Prop} {st : Int} {v : Value} (N : News h₀ L s.heap news) (hm : (d, deq1 st v) ∈ news) (h : Q true { s with toks := s.toks + 1 + 1 }) : wpAny (model prog w) A (truthy (.ref d)) Q E s :=
  truthy_deque (N.get hm) rfl rfl (by show ((3 - 2 : Nat) : Int) < 2 ^ 63; decide) h

theorem change_at {vs : Array Value} {o : Obj} {f : Array Value → Array Value} {st : Int} {Q : Unit → Shared → Prop} (ho : s.heap.get? d = some o) (hdt : o.data = .fields vs) (hs : vs[1]? = some (.int st 0))
    (hz : (#[vs.getD 0 .none, rawInt (st + 1)] ++ f (vs.extract 2 vs.size)).size ≤ sizeLine + 3)
    (h : Q () { s with heap := s.heap.update d (Obj.mapFields fun vs => #[vs.getD 0 .none, rawInt (st + 1)] ++ f (vs.extract 2 vs.size)) }) : wpAny (model prog w) A (Deque.change (.ref d) f) Q E s := by
  unfold Deque.change Deque.state
  refine wpAny_bind (wpAny_bind (wpAny_field ho hdt hs (wpAny_pure ?_)))
  simp only [if_true]
  exact wpAny_updateFields ho hdt h hz
theorem appendleft_K {x : Value} {st : Int} {Q : Value → Shared → Prop} (F : Fr h₀ L s.heap m) (N : News h₀ L s.heap news) (U : Upd d (deq0 st) (deq1 (st + 1) x) news news')
    (h : ∀ h', Fr h₀ L h' m → News h₀ L h' news' → Q .none { s with heap := h' }) : wpAny (model prog w) A (call (.builtin "collections.deque.appendleft") [.ref d, x]) Q E s := by
  obtain ⟨pre, post, rfl, rfl, a, b⟩ := U.split
  have z := N (d, deq0 st) (List.mem_append.mpr (.inr (.head _)))
  refine wpAny_call_entry slot_deque_appendleft ⟨_, z.1, rfl⟩ entry_deque_appendleft ?_ (args_deque_appendleft _ _)
  show wpAny _ _ (Deque.pushLeft (.ref d) x >>= fun _ => ret .none) _ _ s
  refine wpAny_bind ?_
  unfold Deque.pushLeft Deque.maxlen
  refine wpAny_bind (change_at z.1 rfl rfl (by show (3 : Nat) ≤ _; unfold sizeLine; decide) ?_)
  have hg : (s.heap.update d (Obj.mapFields fun vs => #[vs.getD 0 .none, rawInt (st + 1)] ++ (#[x] ++ (vs.extract 2 vs.size)))).get? d = some (deq1 (st + 1) x) :=
    Heap.get?_update_self (fun o => Obj.mapFields (fun vs => #[vs.getD 0 .none, rawInt (st + 1)] ++ (#[x] ++ (vs.extract 2 vs.size))) o) z.1 rfl
  refine wpAny_bind (wpAny_bind (wpAny_field hg rfl rfl (wpAny_pure ?_)))
  refine wpAny_pure (wpAny_pure ⟨.none, rfl, ?_⟩)
  have hs : Heap.SameBut d s.heap (s.heap.update d (Obj.mapFields fun vs => #[vs.getD 0 .none, rawInt (st + 1)] ++ (#[x] ++ (vs.extract 2 vs.size)))) := Heap.SameBut.update ..
  exact h _ (F.change hs z.2.1 z.2.2) (news_set N a b hs hg)
theorem erase_one (st : Int) (x : Value) : (#[Value.none, .int st 0, x].extract 2 3).eraseIdxIfInBounds 0 = #[] := by
  have e : #[Value.none, .int st 0, x].extract 2 3 = #[x] := rfl
  rw [e]
  simp [Array.eraseIdxIfInBounds]
theorem popleft_K {x : Value} {st : Int} {Q : Value → Shared → Prop} (F : Fr h₀ L s.heap m) (N : News h₀ L s.heap news) (U : Upd d (deq1 st x) (deq0 (st + 1)) news news')
    (h : ∀ h', Fr h₀ L h' m → News h₀ L h' news' → Q x { s with heap := h' }) : wpAny (model prog w) A (call (.builtin "collections.deque.popleft") [.ref d]) Q E s := by
  obtain ⟨pre, post, rfl, rfl, a, b⟩ := U.split
  have z := N (d, deq1 st x) (List.mem_append.mpr (.inr (.head _)))
  refine wpAny_call_entry slot_deque_popleft ⟨_, z.1, rfl⟩ entry_deque_popleft ?_ (args_deque_popleft _)
  unfold Builtin.«collections.deque.popleft»
  refine wpAny_bind (m := selfOnly _ _) (wpAny_pure ?_)
  unfold Deque.items
  refine wpAny_bind (wpAny_bind (wpAny_fieldsOf z.1 rfl (wpAny_pure ?_)))
  show wpAny _ _ (Deque.change (.ref d) (·.eraseIdxIfInBounds 0) >>= fun _ => ret x) _ _ _
  refine wpAny_bind (change_at z.1 rfl rfl (by show (#[Value.none, rawInt (st + 1)] ++ (#[Value.none, .int st 0, x].extract 2 3).eraseIdxIfInBounds 0).size ≤ _; rw [erase_one]; show (2 : Nat) ≤ _; unfold sizeLine; decide) ?_)
  have hg : (s.heap.update d (Obj.mapFields fun vs => #[vs.getD 0 .none, rawInt (st + 1)] ++ ((vs.extract 2 vs.size).eraseIdxIfInBounds 0))).get? d = some (deq0 (st + 1)) := by
    refine (Heap.get?_update_self (fun o => Obj.mapFields (fun vs => #[vs.getD 0 .none, rawInt (st + 1)] ++ ((vs.extract 2 vs.size).eraseIdxIfInBounds 0)) o) z.1 rfl).trans ?_
    show some ({ cls := .type "collections.deque", data := .fields (#[Value.none, rawInt (st + 1)] ++ (#[Value.none, .int st 0, x].extract 2 3).eraseIdxIfInBounds 0) } : Obj) = _
    rw [erase_one]
    rfl
  have hs : Heap.SameBut d s.heap (s.heap.update d (Obj.mapFields fun vs => #[vs.getD 0 .none, rawInt (st + 1)] ++ ((vs.extract 2 vs.size).eraseIdxIfInBounds 0))) := Heap.SameBut.update ..
  exact wpAny_pure ⟨x, rfl, h _ (F.change hs z.2.1 z.2.2) (news_set N a b hs hg)⟩
end

end Mine
end

-- E0
section
namespace Mine

theorem lines_E0_0 : True := by
  k_with_none
  trivial
/-- the dict of a posix lexer -/
abbrev lexD (P : Params) (kk vv : Nat → Nat) (wc : Str) (sx d1 d2 : Nat) (state : Value) (lineno : Int) (tl : Nat) (token : Str) (tt : Nat) : Obj :=
  dictOf [⟨PyData.keyHash P (Str.ofString "instream"), .str (Str.ofString "instream") (kk 0), .ref sx⟩,
    ⟨PyData.keyHash P (Str.ofString "infile"), .str (Str.ofString "infile") (kk 1), .none⟩,
    ⟨PyData.keyHash P (Str.ofString "posix"), .str (Str.ofString "posix") (kk 2), .bool true⟩,
    ⟨PyData.keyHash P (Str.ofString "eof"), .str (Str.ofString "eof") (kk 3), .none⟩,
    ⟨PyData.keyHash P (Str.ofString "commenters"), .str (Str.ofString "commenters") (kk 4), .str (Str.ofString "#") (vv 4)⟩,
    ⟨PyData.keyHash P (Str.ofString "wordchars"), .str (Str.ofString "wordchars") (kk 5), .str wc (vv 5)⟩,
    ⟨PyData.keyHash P (Str.ofString "whitespace"), .str (Str.ofString "whitespace") (kk 6), .str (Str.ofString " \t\r\n") (vv 6)⟩,
    ⟨PyData.keyHash P (Str.ofString "whitespace_split"), .str (Str.ofString "whitespace_split") (kk 7), .bool false⟩,
    ⟨PyData.keyHash P (Str.ofString "quotes"), .str (Str.ofString "quotes") (kk 8), .str (Str.ofString "'\"") (vv 8)⟩,
    ⟨PyData.keyHash P (Str.ofString "escape"), .str (Str.ofString "escape") (kk 9), .str (Str.ofString "\\") (vv 9)⟩,
    ⟨PyData.keyHash P (Str.ofString "escapedquotes"), .str (Str.ofString "escapedquotes") (kk 10), .str (Str.ofString "\"") (vv 10)⟩,
    ⟨PyData.keyHash P (Str.ofString "state"), .str (Str.ofString "state") (kk 11), state⟩,
    ⟨PyData.keyHash P (Str.ofString "pushback"), .str (Str.ofString "pushback") (kk 12), .ref d1⟩,
    ⟨PyData.keyHash P (Str.ofString "lineno"), .str (Str.ofString "lineno") (kk 13), .int lineno tl⟩,
    ⟨PyData.keyHash P (Str.ofString "debug"), .str (Str.ofString "debug") (kk 14), .int 0 (vv 14)⟩,
    ⟨PyData.keyHash P (Str.ofString "token"), .str (Str.ofString "token") (kk 15), .str token tt⟩,
    ⟨PyData.keyHash P (Str.ofString "filestack"), .str (Str.ofString "filestack") (kk 16), .ref d2⟩,
    ⟨PyData.keyHash P (Str.ofString "source"), .str (Str.ofString "source") (kk 17), .none⟩,
    ⟨PyData.keyHash P (Str.ofString "_punctuation_chars"), .str (Str.ofString "_punctuation_chars") (kk 18), .str (Str.ofString "") (vv 18)⟩] 19
/-- what a lexer is made of, its stream's two ahead -/
abbrev lexN (P : Params) (sx sd lx ld d1 d2 k1 k2 k3 t1 t2 t3 : Nat) (kk vv : Nat → Nat) (wc buf : Str) (pos : Int) (state : Value) (lineno : Int) (tl : Nat) (token : Str) (tt : Nat) (pb : Obj) (rest : List (Addr × Obj)) : List (Addr × Obj) :=
  sioN P sx sd k1 k2 k3 t1 t2 t3 buf pos ((lx, instObj 764 ld) :: (ld, lexD P kk vv wc sx d1 d2 state lineno tl token tt) :: (d1, pb) :: (d2, deq0 0) :: rest)
/-- the locals of read_token at a turn's start -/
abbrev rtM (lx : Nat) (t1 : Nat) (nc : Option Value) : Str → Option Value := fun y =>
  if y = Str.ofString "nextchar" then nc else if y = Str.ofString "escapedstate" then some (.str (Str.ofString " ") t1) else if y = Str.ofString "quoted" then some (.bool false) else List.lookup y [(Str.ofString "self", .ref lx)]
def RtBody (K : Frag) (b : List Stmt) (sc : Scope) : Prop :=
  ∃ oc od osl name qual params s1 s2 test p rest dV kV doc pm an cdv ct, K.lookup 732 = some ⟨oc, od, .func (fnOf name qual params (s1 :: s2 :: .While test b [] p :: rest) sc dV kV doc pm an cdv ct), osl⟩
theorem RtBody.uniq {K : Frag} {b b' : List Stmt} {sc sc' : Scope} (h : RtBody K b sc) (h' : RtBody K b' sc') : b = b' ∧ sc = sc' := by
  obtain ⟨_, _, _, _, _, _, _, _, _, _, _, _, _, _, _, _, _, _, h⟩ := h
  obtain ⟨_, _, _, _, _, _, _, _, _, _, _, _, _, _, _, _, _, _, h'⟩ := h'
  rw [h] at h'
  injection h' with h'
  injection h' with _ _ h' _
  injection h' with h'
  injection h' with _ _ _ hb hs _ _ _ _ _ _ _ _ _ _
  injection hb with hb
  injection hb with _ hb
  injection hb with _ hb
  injection hb with hb _
  injection hb with _ hb _ _
  exact ⟨hb, hs⟩
abbrev TurnC (w : World) (mean : ExcName → Option Value) (mg mb : Str → Option Value) (b : List Stmt) (sc : Scope) (m : Str → Option Value) (news : List (Addr × Obj)) (R : Flow → (Str → Option Value) → List (Addr × Obj) → Prop) : Prop :=
  ∀ (dp un : Nat) (gd : Option (List Code)) (cn : Str) (cs : Scope) (a : Addr) (ccd : Value) (cl : List (Str × Addr)) (outer : List Env) (base g : Heap) (L L' : Addr) (s : Shared) (Q : Flow → Shared → Prop) (E : Value → Shared → Prop),
    Below (ktrTop dp un gd cn cs L a ccd cl outer) base (envX cn cs L a ccd cl :: outer) g → Fr g L' s.heap m → (KF w.params).In g → News g L' s.heap news → Top QV LO mean mg mb g →
    dp + 6 < recursionLimit → un + 60 < cLine → (∀ fl m' news' h' tk', R fl m' news' → Fr g L' h' m' → News g L' h' news' → Q fl { s with heap := h', toks := tk' }) →
      wpAny (model PySem.Challenge.rw_of0105_01.row.prog w) ((ktrTop dp un gd cn cs L a ccd cl outer).deeper (envOf (Str.ofString "shlex.read_token") sc L' 732 (.ref 731)))
        (execs b (envOf (Str.ofString "shlex.read_token") sc L' 732 (.ref 731))) Q E s

end Mine
end

-- E0b
section
namespace Mine

theorem lines_E0b_0 : True := by
  k_with_none
  trivial
theorem occ_qu_a : (Builtin.Str.occurrences (Str.ofString "'\"") (Str.ofString "a") 0 (Str.ofString "'\"").length 1).isEmpty = true := by decide +kernel
theorem occ_bs_a : (Builtin.Str.occurrences (Str.ofString "\\") (Str.ofString "a") 0 (Str.ofString "\\").length 1).isEmpty = true := by decide +kernel
theorem rtM_set {lx t1 : Nat} {nc : Option Value} {v : Value} : (fun y => if y = Str.ofString "nextchar" then some v else rtM lx t1 nc y) = rtM lx t1 (some v) := by
  funext y
  show (if y = Str.ofString "nextchar" then some v else if y = Str.ofString "nextchar" then nc else _) = (if y = Str.ofString "nextchar" then some v else _)
  by_cases h : y = Str.ofString "nextchar"
  · rw [if_pos h, if_pos h]
  · rw [if_neg h, if_neg h, if_neg h]
set_option maxRecDepth 100000 in
set_option maxHeartbeats 8000000 in
theorem get_pc (w : World) (mean : ExcName → Option Value) (mg mb : Str → Option Value) (news : List (Addr × Obj)) (lx ld : Nat) (kk vv : Nat → Nat) (wc : Str) (sx d1 d2 : Nat) (state : Value) (lineno : Int) (tl : Nat) (token : Str) (tt : Nat)
   {dp un : Nat} {gd : Option (List Code)} {cn : Str} {cs : Scope} {a : Addr} {ccd : Value} {cl : List (Str × Addr)} {outer : List Env} {A₀ : Around} {base h₀ : Heap} {L : Addr} {m : Str → Option Value} {s : Shared} {Q E : Value → Shared → Prop} {expr : Bool}
   (B : Below A₀ base outer h₀) (F : Fr h₀ L s.heap m) (X : (KF w.params).In h₀) (N : News h₀ L s.heap news) (T : Top QV LO mean mg mb h₀) (hk : cs.kind = .function)
   (hdp : dp + 1 < recursionLimit) (hun : un + 9 < cLine) (hm1 : (lx, instObj 764 ld) ∈ news) (hm2 : (ld, lexD w.params kk vv wc sx d1 d2 state lineno tl token tt) ∈ news) (hret : ∀ h' tk', Fr h₀ L h' m → News h₀ L h' news → Q (.str (Str.ofString "") (vv 18)) { s with heap := h', toks := tk' }) :
      wpAny (model PySem.Challenge.rw_of0105_01.row.prog w) (ktrTop dp un gd cn cs L a ccd cl outer) (getAttr (.ref lx) (Str.ofString "punctuation_chars") expr) Q E s := by
  have KF : KF w.params = KF w.params := rfl
  revert KF
  k_fill
  intro _
  k_dflt (refine' get_prop ?k1 ?k2 ?k3 ?k4 ?k5 ?k6 ?k7 ?k8 ?k9 ?_; (case k1 => k_asm); (case k2 => k_asm); (case k3 => exact ⟨N.get hm1, rfl, rfl, N.get hm2⟩); (case k4 => k_is); (case k5 => k_is); (case k6 => k_is); (case k7 => k_is); (case k8 => k_is); (case k9 => k_is); k_whole)
  k_dflt (refine' code_def ?k1 ?k2 ?k3 ?k4 ?k5 ?kA ?kF ?kK ?k6 ?k7 ?k8 ?k9 ?kB ?_ ?c2 ?c3 ?c4 ?c5; (case kA => exact rfl); (case kF => exact rfl); (case kK => assumption); (case k1 => k_asm); (case k2 => k_asm); (case k3 => k_asm); (case k4 => k_asm); (case k5 => k_asm); (case k6 => k_is); (case k7 => k_is); (case k8 => ktr_room); (case k9 => exact kp_binds (binds := [(Str.ofString "self", .ref lx)]) (X.keeps F.keep) (fun S => by kernel_rfl)); (case c5 => decide); (case kB => exact locs rfl); (case c2 => exact rfl); (case c3 => exact rfl); (case c4 => exact rfl); k_whole; intro g' L' h' FG' F' N' B' X' T'; (try dsimp only); (try k_lift B'); (try k_fold))
  k_steps
  all_goals exact hret _ _ (by k_asm) (by k_asm)

end Mine
end

-- E1
section
namespace Mine

theorem lines_E1_0 : True := by
  k_with_none
  trivial
theorem lines_E1_1 : True := by
  k_with "call ref" => (k_here; (try dsimp only); (with_reducible show wpAny _ _ (call (Value.ref 575) _ _) _ _ _); k_dflt (refine' ctr_use2 (by k_asm) (by k_asm) (by k_asm) (by first | k_asm | exact news_tail (by k_asm)) (by k_asm) (by first | exact rfl | assumption) (by ktr_room) (by ktr_units) (read_c _ _ _ _ _ _ _ _ _ _ _ _ _ _ _ _ _ _ (by k_all) (by omega) (by omega) (by assumption) (by omega)) ?_); rintro _ _ _ _ ⟨⟨_, rfl⟩, _, _⟩; (try dsimp only); (try k_fold))
  k_with "call ref" => (k_here; (try dsimp only); (with_reducible show wpAny _ _ (call (Value.ref 583) _ _) _ _ _); k_dflt (refine' ctr_use2 (by k_asm) (by k_asm) (by k_asm) (by first | k_asm | exact news_tail (by k_asm)) (by k_asm) (by first | exact rfl | assumption) (by ktr_room) (by ktr_units) (readline_c _ _ _ _ _ _ _ _ _ _ _ _ _ _ _ (by k_all) (by omega) (by omega) (by omega)) ?_); rintro _ _ _ _ ⟨⟨_, _, rfl⟩, _, _, _, _, _⟩; (try dsimp only); (try k_fold))
  k_with "getAttr ref" => (k_here; (with_reducible show wpAny _ _ (getAttr (Value.ref _) (Str.ofString "punctuation_chars") _) _ _ _); k_dflt (refine' get_pc _ _ _ _ _ _ _ _ _ _ _ _ _ _ _ _ _ _ (by k_asm) (by k_asm) (by k_asm) (by k_asm) (by k_asm) (by first | exact rfl | assumption) (by ktr_room) (by ktr_units) (by k_mem) (by k_mem) ?_); intro _ _ _ _; (try dsimp only); (try k_fold))
  k_with "ite" => (k_here; first | (refine PySem.W.ite_pos (by with_reducible assumption) ?_) | (refine ite_isFalse (by with_reducible assumption) ?_))
  k_with "exec If" => (k_here; (try k_fold); refine wpAny_If ?_)
  k_with "truthy str" => (k_here; (with_reducible show wpAny _ _ (PySem.truthy (Value.str _ _)) _ _ _); first | (refine KXt.truthy (by k_dflt kxw_bool) (by decide +kernel) ?_; intro _) | (refine SBL.truthy (by omega) ?_))
  k_with "getMethod ref" => (k_here; (with_reducible show wpAny _ _ (getMethod (Value.ref _) (Str.ofString "appendleft") _) _ _ _); k_dflt (refine' getMethod_appendleft (by k_asm) (by k_mem) (by exact rfl) (by exact rfl) ?_; k_whole))
  k_with "call builtin:collections.deque.appendleft" => (k_here; k_dflt (refine' appendleft_K (by k_asm) (by k_asm) (by k_upd) ?_; k_whole); intro _ _ _; (try k_sweep))
  trivial
set_option maxRecDepth 100000 in
set_option maxHeartbeats 8000000 in
theorem turn_sp_nl (w : World) (mean : ExcName → Option Value) (mg mb : Str → Option Value) (b : List Stmt) (sc : Scope) (hb : RtBody (KF w.params) b sc) (rest : List (Addr × Obj)) (sx sd lx ld d1 d2 k1 k2 k3 t1 t2 t3 : Nat) (kk vv : Nat → Nat) (wc buf : Str) (pos lineno : Int) (tst tl tt te : Nat) (nc : Option Value) (c : Nat) (r : List Nat) (pb : Obj)
   (h1 : sd < sx) (h2 : lx < sd) (h3 : ld < lx) (h4 : sx < d1) (h5 : d1 < d2) (hr1 : ∀ p ∈ rest, p.1 ≠ sd) (hr2 : ∀ p ∈ rest, p.1 ≠ ld) (hr3 : ∀ p ∈ rest, p.1 ≠ d1)
   (hpos : 0 ≤ pos) (hln : buf.length ≤ 1000) (hr : buf.cps.toList.drop pos.toNat = c :: r) (hne : ((((⟨#[c]⟩ : Str).length : Nat) : Int) != 0) = true) (hnl : ((⟨#[c]⟩ : Str) == Str.ofString "\n") = true) (hws : ((Builtin.Str.occurrences (Str.ofString " \t\r\n") ⟨#[c]⟩ 0 (Str.ofString " \t\r\n").length 1).isEmpty = false)) :
   TurnC w mean mg mb b sc (rtM lx te nc) (lexN w.params sx sd lx ld d1 d2 k1 k2 k3 t1 t2 t3 kk vv wc buf pos (.str (Str.ofString " ") tst) lineno tl (Str.ofString "") tt pb rest)
     (fun fl m' news' => ∃ nc' t3' tl', fl = .cont ∧ m' = rtM lx te nc' ∧  news' = lexN w.params sx sd lx ld d1 d2 k1 k2 k3 t1 t2 t3' kk vv wc buf (pos + 1) (.str (Str.ofString " ") tst) (lineno + 1) tl' (Str.ofString "") tt pb rest) := by
  unfold TurnC
  k_fill
  obtain ⟨e1, e2⟩ := hb.uniq ⟨_, _, _, _, _, _, _, _, _, _, _, _, _, _, _, _, _, _, by k_is⟩
  subst e1 e2
  intro dp un gd cn cs a ccd cl outer base g L L' s Q E B F X N T hdp hun hret
  k_steps
  all_goals exact hret _ _ _ _ _ ⟨_, _, _, rfl, rtM_set, rfl⟩ (by k_asm) (by first | k_asm | exact news_tail (by k_asm))
set_option maxRecDepth 100000 in
set_option maxHeartbeats 8000000 in
theorem turn_sp_ws (w : World) (mean : ExcName → Option Value) (mg mb : Str → Option Value) (b : List Stmt) (sc : Scope) (hb : RtBody (KF w.params) b sc) (rest : List (Addr × Obj)) (sx sd lx ld d1 d2 k1 k2 k3 t1 t2 t3 : Nat) (kk vv : Nat → Nat) (wc buf : Str) (pos lineno : Int) (tst tl tt te : Nat) (nc : Option Value) (c : Nat) (r : List Nat) (pb : Obj)
   (h1 : sd < sx) (h2 : lx < sd) (h3 : ld < lx) (h4 : sx < d1) (h5 : d1 < d2) (hr1 : ∀ p ∈ rest, p.1 ≠ sd) (hr2 : ∀ p ∈ rest, p.1 ≠ ld) (hr3 : ∀ p ∈ rest, p.1 ≠ d1)
   (hpos : 0 ≤ pos) (hln : buf.length ≤ 1000) (hr : buf.cps.toList.drop pos.toNat = c :: r) (hne : ((((⟨#[c]⟩ : Str).length : Nat) : Int) != 0) = true) (hnl : ((⟨#[c]⟩ : Str) == Str.ofString "\n") = false) (hws : ((Builtin.Str.occurrences (Str.ofString " \t\r\n") ⟨#[c]⟩ 0 (Str.ofString " \t\r\n").length 1).isEmpty = false)) :
   TurnC w mean mg mb b sc (rtM lx te nc) (lexN w.params sx sd lx ld d1 d2 k1 k2 k3 t1 t2 t3 kk vv wc buf pos (.str (Str.ofString " ") tst) lineno tl (Str.ofString "") tt pb rest)
     (fun fl m' news' => ∃ nc' t3' , fl = .cont ∧ m' = rtM lx te nc' ∧  news' = lexN w.params sx sd lx ld d1 d2 k1 k2 k3 t1 t2 t3' kk vv wc buf (pos + 1) (.str (Str.ofString " ") tst) lineno tl (Str.ofString "") tt pb rest) := by
  unfold TurnC
  k_fill
  obtain ⟨e1, e2⟩ := hb.uniq ⟨_, _, _, _, _, _, _, _, _, _, _, _, _, _, _, _, _, _, by k_is⟩
  subst e1 e2
  intro dp un gd cn cs a ccd cl outer base g L L' s Q E B F X N T hdp hun hret
  k_steps
  all_goals exact hret _ _ _ _ _ ⟨_, _, rfl, rtM_set, rfl⟩ (by k_asm) (by first | k_asm | exact news_tail (by k_asm))
set_option maxRecDepth 100000 in
set_option maxHeartbeats 8000000 in
theorem turn_sp_hash (w : World) (mean : ExcName → Option Value) (mg mb : Str → Option Value) (b : List Stmt) (sc : Scope) (hb : RtBody (KF w.params) b sc) (rest : List (Addr × Obj)) (sx sd lx ld d1 d2 k1 k2 k3 t1 t2 t3 : Nat) (kk vv : Nat → Nat) (wc buf : Str) (pos lineno : Int) (tst tl tt te : Nat) (nc : Option Value) (c : Nat) (r : List Nat) (pb : Obj)
   (h1 : sd < sx) (h2 : lx < sd) (h3 : ld < lx) (h4 : sx < d1) (h5 : d1 < d2) (hr1 : ∀ p ∈ rest, p.1 ≠ sd) (hr2 : ∀ p ∈ rest, p.1 ≠ ld) (hr3 : ∀ p ∈ rest, p.1 ≠ d1)
   (hpos : 0 ≤ pos) (hln : buf.length ≤ 1000) (hr : buf.cps.toList.drop pos.toNat = c :: r) (hne : ((((⟨#[c]⟩ : Str).length : Nat) : Int) != 0) = true) (hnl : ((⟨#[c]⟩ : Str) == Str.ofString "\n") = false) (hws : ((Builtin.Str.occurrences (Str.ofString " \t\r\n") ⟨#[c]⟩ 0 (Str.ofString " \t\r\n").length 1).isEmpty = true)) (hha : ((Builtin.Str.occurrences (Str.ofString "#") ⟨#[c]⟩ 0 (Str.ofString "#").length 1).isEmpty = false)) :
   TurnC w mean mg mb b sc (rtM lx te nc) (lexN w.params sx sd lx ld d1 d2 k1 k2 k3 t1 t2 t3 kk vv wc buf pos (.str (Str.ofString " ") tst) lineno tl (Str.ofString "") tt pb rest)
     (fun fl m' news' => ∃ nc' t3' tl' pos', fl = .next ∧ m' = rtM lx te nc' ∧ 0 ≤ pos' ∧ buf.cps.toList.drop pos'.toNat = afterLine (buf.cps.toList.drop (pos + 1).toNat) ∧ news' = lexN w.params sx sd lx ld d1 d2 k1 k2 k3 t1 t2 t3' kk vv wc buf pos' (.str (Str.ofString " ") tst) (lineno + 1) tl' (Str.ofString "") tt pb rest) := by
  unfold TurnC
  k_fill
  obtain ⟨e1, e2⟩ := hb.uniq ⟨_, _, _, _, _, _, _, _, _, _, _, _, _, _, _, _, _, _, by k_is⟩
  subst e1 e2
  intro dp un gd cn cs a ccd cl outer base g L L' s Q E B F X N T hdp hun hret
  k_steps
  all_goals exact hret _ _ _ _ _ ⟨_, _, _, _, rfl, rtM_set, by assumption, by assumption, rfl⟩ (by k_asm) (by first | k_asm | exact news_tail (by k_asm))
set_option maxRecDepth 100000 in
set_option maxHeartbeats 8000000 in
theorem turn_sp_word (w : World) (mean : ExcName → Option Value) (mg mb : Str → Option Value) (b : List Stmt) (sc : Scope) (hb : RtBody (KF w.params) b sc) (rest : List (Addr × Obj)) (sx sd lx ld d1 d2 k1 k2 k3 t1 t2 t3 : Nat) (kk vv : Nat → Nat) (wc buf : Str) (pos lineno : Int) (tst tl tt te : Nat) (nc : Option Value) (c : Nat) (r : List Nat) (pb : Obj)
   (h1 : sd < sx) (h2 : lx < sd) (h3 : ld < lx) (h4 : sx < d1) (h5 : d1 < d2) (hr1 : ∀ p ∈ rest, p.1 ≠ sd) (hr2 : ∀ p ∈ rest, p.1 ≠ ld) (hr3 : ∀ p ∈ rest, p.1 ≠ d1)
   (hpos : 0 ≤ pos) (hln : buf.length ≤ 1000) (hr : buf.cps.toList.drop pos.toNat = c :: r) (hne : ((((⟨#[c]⟩ : Str).length : Nat) : Int) != 0) = true) (hnl : ((⟨#[c]⟩ : Str) == Str.ofString "\n") = false) (hws : ((Builtin.Str.occurrences (Str.ofString " \t\r\n") ⟨#[c]⟩ 0 (Str.ofString " \t\r\n").length 1).isEmpty = true)) (hha : ((Builtin.Str.occurrences (Str.ofString "#") ⟨#[c]⟩ 0 (Str.ofString "#").length 1).isEmpty = true)) (hbs : ((Builtin.Str.occurrences (Str.ofString "\\") ⟨#[c]⟩ 0 (Str.ofString "\\").length 1).isEmpty = true)) (hwd : (Builtin.Str.occurrences wc ⟨#[c]⟩ 0 wc.length 1).isEmpty = false) (hqu : ((Builtin.Str.occurrences (Str.ofString "'\"") ⟨#[c]⟩ 0 (Str.ofString "'\"").length 1).isEmpty = true)) (hem : ((Builtin.Str.occurrences (Str.ofString "") ⟨#[c]⟩ 0 (Str.ofString "").length 1).isEmpty = true)) :
   TurnC w mean mg mb b sc (rtM lx te nc) (lexN w.params sx sd lx ld d1 d2 k1 k2 k3 t1 t2 t3 kk vv wc buf pos (.str (Str.ofString " ") tst) lineno tl (Str.ofString "") tt pb rest)
     (fun fl m' news' => ∃ nc' t3' tt' tst', fl = .next ∧ m' = rtM lx te nc' ∧  news' = lexN w.params sx sd lx ld d1 d2 k1 k2 k3 t1 t2 t3' kk vv wc buf (pos + 1) (.str (Str.ofString "a") tst') lineno tl ⟨#[c]⟩ tt' pb rest) := by
  unfold TurnC
  k_fill
  obtain ⟨e1, e2⟩ := hb.uniq ⟨_, _, _, _, _, _, _, _, _, _, _, _, _, _, _, _, _, _, by k_is⟩
  subst e1 e2
  intro dp un gd cn cs a ccd cl outer base g L L' s Q E B F X N T hdp hun hret
  k_steps
  all_goals exact hret _ _ _ _ _ ⟨_, _, _, _, rfl, rtM_set, rfl⟩ (by k_asm) (by first | k_asm | exact news_tail (by k_asm))
set_option maxRecDepth 100000 in
set_option maxHeartbeats 8000000 in
theorem turn_sp_punct (w : World) (mean : ExcName → Option Value) (mg mb : Str → Option Value) (b : List Stmt) (sc : Scope) (hb : RtBody (KF w.params) b sc) (rest : List (Addr × Obj)) (sx sd lx ld d1 d2 k1 k2 k3 t1 t2 t3 : Nat) (kk vv : Nat → Nat) (wc buf : Str) (pos lineno : Int) (tst tl tt te : Nat) (nc : Option Value) (c : Nat) (r : List Nat) (pb : Obj)
   (h1 : sd < sx) (h2 : lx < sd) (h3 : ld < lx) (h4 : sx < d1) (h5 : d1 < d2) (hr1 : ∀ p ∈ rest, p.1 ≠ sd) (hr2 : ∀ p ∈ rest, p.1 ≠ ld) (hr3 : ∀ p ∈ rest, p.1 ≠ d1)
   (hpos : 0 ≤ pos) (hln : buf.length ≤ 1000) (hr : buf.cps.toList.drop pos.toNat = c :: r) (hne : ((((⟨#[c]⟩ : Str).length : Nat) : Int) != 0) = true) (hnl : ((⟨#[c]⟩ : Str) == Str.ofString "\n") = false) (hws : ((Builtin.Str.occurrences (Str.ofString " \t\r\n") ⟨#[c]⟩ 0 (Str.ofString " \t\r\n").length 1).isEmpty = true)) (hha : ((Builtin.Str.occurrences (Str.ofString "#") ⟨#[c]⟩ 0 (Str.ofString "#").length 1).isEmpty = true)) (hbs : ((Builtin.Str.occurrences (Str.ofString "\\") ⟨#[c]⟩ 0 (Str.ofString "\\").length 1).isEmpty = true)) (hwd : (Builtin.Str.occurrences wc ⟨#[c]⟩ 0 wc.length 1).isEmpty = true) (hqu : ((Builtin.Str.occurrences (Str.ofString "'\"") ⟨#[c]⟩ 0 (Str.ofString "'\"").length 1).isEmpty = true)) (hem : ((Builtin.Str.occurrences (Str.ofString "") ⟨#[c]⟩ 0 (Str.ofString "").length 1).isEmpty = true)) :
   TurnC w mean mg mb b sc (rtM lx te nc) (lexN w.params sx sd lx ld d1 d2 k1 k2 k3 t1 t2 t3 kk vv wc buf pos (.str (Str.ofString " ") tst) lineno tl (Str.ofString "") tt pb rest)
     (fun fl m' news' => ∃ nc' t3' tt', fl = .brk ∧ m' = rtM lx te nc' ∧  news' = lexN w.params sx sd lx ld d1 d2 k1 k2 k3 t1 t2 t3' kk vv wc buf (pos + 1) (.str (Str.ofString " ") tst) lineno tl ⟨#[c]⟩ tt' pb rest) := by
  unfold TurnC
  k_fill
  obtain ⟨e1, e2⟩ := hb.uniq ⟨_, _, _, _, _, _, _, _, _, _, _, _, _, _, _, _, _, _, by k_is⟩
  subst e1 e2
  intro dp un gd cn cs a ccd cl outer base g L L' s Q E B F X N T hdp hun hret
  k_steps
  all_goals exact hret _ _ _ _ _ ⟨_, _, _, rfl, rtM_set, rfl⟩ (by k_asm) (by first | k_asm | exact news_tail (by k_asm))

end Mine
end

-- E2
section
namespace Mine

theorem lines_E2_0 : True := by
  k_with_none
  trivial
theorem lines_E2_1 : True := by
  k_with "call ref" => (k_here; (try dsimp only); (with_reducible show wpAny _ _ (call (Value.ref 575) _ _) _ _ _); k_dflt (refine' ctr_use2 (by k_asm) (by k_asm) (by k_asm) (by first | k_asm | exact news_tail (by k_asm)) (by k_asm) (by first | exact rfl | assumption) (by ktr_room) (by ktr_units) (read_c _ _ _ _ _ _ _ _ _ _ _ _ _ _ _ _ _ _ (by k_all) (by omega) (by omega) (by assumption) (by omega)) ?_); rintro _ _ _ _ ⟨⟨_, rfl⟩, _, _⟩; (try dsimp only); (try k_fold))
  k_with "call ref" => (k_here; (try dsimp only); (with_reducible show wpAny _ _ (call (Value.ref 583) _ _) _ _ _); k_dflt (refine' ctr_use2 (by k_asm) (by k_asm) (by k_asm) (by first | k_asm | exact news_tail (by k_asm)) (by k_asm) (by first | exact rfl | assumption) (by ktr_room) (by ktr_units) (readline_c _ _ _ _ _ _ _ _ _ _ _ _ _ _ _ (by k_all) (by omega) (by omega) (by omega)) ?_); rintro _ _ _ _ ⟨⟨_, _, rfl⟩, _, _, _, _, _⟩; (try dsimp only); (try k_fold))
  k_with "getAttr ref" => (k_here; (with_reducible show wpAny _ _ (getAttr (Value.ref _) (Str.ofString "punctuation_chars") _) _ _ _); k_dflt (refine' get_pc _ _ _ _ _ _ _ _ _ _ _ _ _ _ _ _ _ _ (by k_asm) (by k_asm) (by k_asm) (by k_asm) (by k_asm) (by first | exact rfl | assumption) (by ktr_room) (by ktr_units) (by k_mem) (by k_mem) ?_); intro _ _ _ _; (try dsimp only); (try k_fold))
  k_with "ite" => (k_here; first | (refine PySem.W.ite_pos (by with_reducible assumption) ?_) | (refine ite_isFalse (by with_reducible assumption) ?_))
  k_with "exec If" => (k_here; (try k_fold); refine wpAny_If ?_)
  k_with "truthy str" => (k_here; (with_reducible show wpAny _ _ (PySem.truthy (Value.str _ _)) _ _ _); first | (refine KXt.truthy (by k_dflt kxw_bool) (by decide +kernel) ?_; intro _) | (refine SBL.truthy (by omega) ?_))
  k_with "getMethod ref" => (k_here; (with_reducible show wpAny _ _ (getMethod (Value.ref _) (Str.ofString "appendleft") _) _ _ _); k_dflt (refine' getMethod_appendleft (by k_asm) (by k_mem) (by exact rfl) (by exact rfl) ?_; k_whole))
  k_with "call builtin:collections.deque.appendleft" => (k_here; k_dflt (refine' appendleft_K (by k_asm) (by k_asm) (by k_upd) ?_; k_whole); intro _ _ _; (try k_sweep))
  trivial
set_option maxRecDepth 100000 in
set_option maxHeartbeats 8000000 in
theorem turn_a_nl (w : World) (mean : ExcName → Option Value) (mg mb : Str → Option Value) (b : List Stmt) (sc : Scope) (hb : RtBody (KF w.params) b sc) (rest : List (Addr × Obj)) (sx sd lx ld d1 d2 k1 k2 k3 t1 t2 t3 : Nat) (kk vv : Nat → Nat) (wc buf : Str) (pos lineno : Int) (tst tl tt te : Nat) (nc : Option Value) (c : Nat) (r : List Nat) (token : Str) (pb : Obj)
   (h1 : sd < sx) (h2 : lx < sd) (h3 : ld < lx) (h4 : sx < d1) (h5 : d1 < d2) (hr1 : ∀ p ∈ rest, p.1 ≠ sd) (hr2 : ∀ p ∈ rest, p.1 ≠ ld) (hr3 : ∀ p ∈ rest, p.1 ≠ d1)
   (hpos : 0 ≤ pos) (hln : buf.length ≤ 1000) (hr : buf.cps.toList.drop pos.toNat = c :: r) (hne : ((((⟨#[c]⟩ : Str).length : Nat) : Int) != 0) = true) (hnl : ((⟨#[c]⟩ : Str) == Str.ofString "\n") = true) (hws : ((Builtin.Str.occurrences (Str.ofString " \t\r\n") ⟨#[c]⟩ 0 (Str.ofString " \t\r\n").length 1).isEmpty = false)) (htk : (((token.length : Nat) : Int) != 0) = true) (htl : token.length ≤ 1000) :
   TurnC w mean mg mb b sc (rtM lx te nc) (lexN w.params sx sd lx ld d1 d2 k1 k2 k3 t1 t2 t3 kk vv wc buf pos (.str (Str.ofString "a") tst) lineno tl token tt pb rest)
     (fun fl m' news' => ∃ nc' t3' tst' tl', fl = .brk ∧ m' = rtM lx te nc' ∧  news' = lexN w.params sx sd lx ld d1 d2 k1 k2 k3 t1 t2 t3' kk vv wc buf (pos + 1) (.str (Str.ofString " ") tst') (lineno + 1) tl' token tt pb rest) := by
  unfold TurnC
  k_fill
  obtain ⟨e1, e2⟩ := hb.uniq ⟨_, _, _, _, _, _, _, _, _, _, _, _, _, _, _, _, _, _, by k_is⟩
  subst e1 e2
  intro dp un gd cn cs a ccd cl outer base g L L' s Q E B F X N T hdp hun hret
  have hqa := occ_qu_a
  have hba := occ_bs_a
  k_steps
  all_goals exact hret _ _ _ _ _ ⟨_, _, _, _, rfl, rtM_set, rfl⟩ (by k_asm) (by first | k_asm | exact news_tail (by k_asm))
set_option maxRecDepth 100000 in
set_option maxHeartbeats 8000000 in
theorem turn_a_ws (w : World) (mean : ExcName → Option Value) (mg mb : Str → Option Value) (b : List Stmt) (sc : Scope) (hb : RtBody (KF w.params) b sc) (rest : List (Addr × Obj)) (sx sd lx ld d1 d2 k1 k2 k3 t1 t2 t3 : Nat) (kk vv : Nat → Nat) (wc buf : Str) (pos lineno : Int) (tst tl tt te : Nat) (nc : Option Value) (c : Nat) (r : List Nat) (token : Str) (pb : Obj)
   (h1 : sd < sx) (h2 : lx < sd) (h3 : ld < lx) (h4 : sx < d1) (h5 : d1 < d2) (hr1 : ∀ p ∈ rest, p.1 ≠ sd) (hr2 : ∀ p ∈ rest, p.1 ≠ ld) (hr3 : ∀ p ∈ rest, p.1 ≠ d1)
   (hpos : 0 ≤ pos) (hln : buf.length ≤ 1000) (hr : buf.cps.toList.drop pos.toNat = c :: r) (hne : ((((⟨#[c]⟩ : Str).length : Nat) : Int) != 0) = true) (hnl : ((⟨#[c]⟩ : Str) == Str.ofString "\n") = false) (hws : ((Builtin.Str.occurrences (Str.ofString " \t\r\n") ⟨#[c]⟩ 0 (Str.ofString " \t\r\n").length 1).isEmpty = false)) (htk : (((token.length : Nat) : Int) != 0) = true) (htl : token.length ≤ 1000) :
   TurnC w mean mg mb b sc (rtM lx te nc) (lexN w.params sx sd lx ld d1 d2 k1 k2 k3 t1 t2 t3 kk vv wc buf pos (.str (Str.ofString "a") tst) lineno tl token tt pb rest)
     (fun fl m' news' => ∃ nc' t3' tst', fl = .brk ∧ m' = rtM lx te nc' ∧  news' = lexN w.params sx sd lx ld d1 d2 k1 k2 k3 t1 t2 t3' kk vv wc buf (pos + 1) (.str (Str.ofString " ") tst') lineno tl token tt pb rest) := by
  unfold TurnC
  k_fill
  obtain ⟨e1, e2⟩ := hb.uniq ⟨_, _, _, _, _, _, _, _, _, _, _, _, _, _, _, _, _, _, by k_is⟩
  subst e1 e2
  intro dp un gd cn cs a ccd cl outer base g L L' s Q E B F X N T hdp hun hret
  have hqa := occ_qu_a
  have hba := occ_bs_a
  k_steps
  all_goals exact hret _ _ _ _ _ ⟨_, _, _, rfl, rtM_set, rfl⟩ (by k_asm) (by first | k_asm | exact news_tail (by k_asm))
set_option maxRecDepth 100000 in
set_option maxHeartbeats 8000000 in
theorem turn_a_hash (w : World) (mean : ExcName → Option Value) (mg mb : Str → Option Value) (b : List Stmt) (sc : Scope) (hb : RtBody (KF w.params) b sc) (rest : List (Addr × Obj)) (sx sd lx ld d1 d2 k1 k2 k3 t1 t2 t3 : Nat) (kk vv : Nat → Nat) (wc buf : Str) (pos lineno : Int) (tst tl tt te : Nat) (nc : Option Value) (c : Nat) (r : List Nat) (token : Str) (pb : Obj)
   (h1 : sd < sx) (h2 : lx < sd) (h3 : ld < lx) (h4 : sx < d1) (h5 : d1 < d2) (hr1 : ∀ p ∈ rest, p.1 ≠ sd) (hr2 : ∀ p ∈ rest, p.1 ≠ ld) (hr3 : ∀ p ∈ rest, p.1 ≠ d1)
   (hpos : 0 ≤ pos) (hln : buf.length ≤ 1000) (hr : buf.cps.toList.drop pos.toNat = c :: r) (hne : ((((⟨#[c]⟩ : Str).length : Nat) : Int) != 0) = true) (hnl : ((⟨#[c]⟩ : Str) == Str.ofString "\n") = false) (hws : ((Builtin.Str.occurrences (Str.ofString " \t\r\n") ⟨#[c]⟩ 0 (Str.ofString " \t\r\n").length 1).isEmpty = true)) (hha : ((Builtin.Str.occurrences (Str.ofString "#") ⟨#[c]⟩ 0 (Str.ofString "#").length 1).isEmpty = false)) (htk : (((token.length : Nat) : Int) != 0) = true) (htl : token.length ≤ 1000) :
   TurnC w mean mg mb b sc (rtM lx te nc) (lexN w.params sx sd lx ld d1 d2 k1 k2 k3 t1 t2 t3 kk vv wc buf pos (.str (Str.ofString "a") tst) lineno tl token tt pb rest)
     (fun fl m' news' => ∃ nc' t3' tst' tl' pos', fl = .brk ∧ m' = rtM lx te nc' ∧ 0 ≤ pos' ∧ buf.cps.toList.drop pos'.toNat = afterLine (buf.cps.toList.drop (pos + 1).toNat) ∧ news' = lexN w.params sx sd lx ld d1 d2 k1 k2 k3 t1 t2 t3' kk vv wc buf pos' (.str (Str.ofString " ") tst') (lineno + 1) tl' token tt pb rest) := by
  unfold TurnC
  k_fill
  obtain ⟨e1, e2⟩ := hb.uniq ⟨_, _, _, _, _, _, _, _, _, _, _, _, _, _, _, _, _, _, by k_is⟩
  subst e1 e2
  intro dp un gd cn cs a ccd cl outer base g L L' s Q E B F X N T hdp hun hret
  have hqa := occ_qu_a
  have hba := occ_bs_a
  k_steps
  all_goals exact hret _ _ _ _ _ ⟨_, _, _, _, _, rfl, rtM_set, by assumption, by assumption, rfl⟩ (by k_asm) (by first | k_asm | exact news_tail (by k_asm))
set_option maxRecDepth 100000 in
set_option maxHeartbeats 8000000 in
theorem turn_a_word (w : World) (mean : ExcName → Option Value) (mg mb : Str → Option Value) (b : List Stmt) (sc : Scope) (hb : RtBody (KF w.params) b sc) (rest : List (Addr × Obj)) (sx sd lx ld d1 d2 k1 k2 k3 t1 t2 t3 : Nat) (kk vv : Nat → Nat) (wc buf : Str) (pos lineno : Int) (tst tl tt te : Nat) (nc : Option Value) (c : Nat) (r : List Nat) (token : Str) (pb : Obj)
   (h1 : sd < sx) (h2 : lx < sd) (h3 : ld < lx) (h4 : sx < d1) (h5 : d1 < d2) (hr1 : ∀ p ∈ rest, p.1 ≠ sd) (hr2 : ∀ p ∈ rest, p.1 ≠ ld) (hr3 : ∀ p ∈ rest, p.1 ≠ d1)
   (hpos : 0 ≤ pos) (hln : buf.length ≤ 1000) (hr : buf.cps.toList.drop pos.toNat = c :: r) (hne : ((((⟨#[c]⟩ : Str).length : Nat) : Int) != 0) = true) (hnl : ((⟨#[c]⟩ : Str) == Str.ofString "\n") = false) (hws : ((Builtin.Str.occurrences (Str.ofString " \t\r\n") ⟨#[c]⟩ 0 (Str.ofString " \t\r\n").length 1).isEmpty = true)) (hha : ((Builtin.Str.occurrences (Str.ofString "#") ⟨#[c]⟩ 0 (Str.ofString "#").length 1).isEmpty = true)) (hbs : ((Builtin.Str.occurrences (Str.ofString "\\") ⟨#[c]⟩ 0 (Str.ofString "\\").length 1).isEmpty = true)) (hwd : (Builtin.Str.occurrences wc ⟨#[c]⟩ 0 wc.length 1).isEmpty = false) (hqu : ((Builtin.Str.occurrences (Str.ofString "'\"") ⟨#[c]⟩ 0 (Str.ofString "'\"").length 1).isEmpty = true)) (hem : ((Builtin.Str.occurrences (Str.ofString "") ⟨#[c]⟩ 0 (Str.ofString "").length 1).isEmpty = true)) (htk : (((token.length : Nat) : Int) != 0) = true) (htl : token.length ≤ 1000) :
   TurnC w mean mg mb b sc (rtM lx te nc) (lexN w.params sx sd lx ld d1 d2 k1 k2 k3 t1 t2 t3 kk vv wc buf pos (.str (Str.ofString "a") tst) lineno tl token tt pb rest)
     (fun fl m' news' => ∃ nc' t3' tt', fl = .next ∧ m' = rtM lx te nc' ∧  news' = lexN w.params sx sd lx ld d1 d2 k1 k2 k3 t1 t2 t3' kk vv wc buf (pos + 1) (.str (Str.ofString "a") tst) lineno tl (token ++ ⟨#[c]⟩) tt' pb rest) := by
  unfold TurnC
  k_fill
  obtain ⟨e1, e2⟩ := hb.uniq ⟨_, _, _, _, _, _, _, _, _, _, _, _, _, _, _, _, _, _, by k_is⟩
  subst e1 e2
  intro dp un gd cn cs a ccd cl outer base g L L' s Q E B F X N T hdp hun hret
  have hqa := occ_qu_a
  have hba := occ_bs_a
  k_steps
  all_goals exact hret _ _ _ _ _ ⟨_, _, _, rfl, rtM_set, rfl⟩ (by k_asm) (by first | k_asm | exact news_tail (by k_asm))
set_option maxRecDepth 100000 in
set_option maxHeartbeats 8000000 in
theorem turn_a_punct (w : World) (mean : ExcName → Option Value) (mg mb : Str → Option Value) (b : List Stmt) (sc : Scope) (hb : RtBody (KF w.params) b sc) (rest : List (Addr × Obj)) (sx sd lx ld d1 d2 k1 k2 k3 t1 t2 t3 : Nat) (kk vv : Nat → Nat) (wc buf : Str) (pos lineno : Int) (tst tl tt te : Nat) (nc : Option Value) (c : Nat) (r : List Nat) (token : Str) (st : Int)
   (h1 : sd < sx) (h2 : lx < sd) (h3 : ld < lx) (h4 : sx < d1) (h5 : d1 < d2) (hr1 : ∀ p ∈ rest, p.1 ≠ sd) (hr2 : ∀ p ∈ rest, p.1 ≠ ld) (hr3 : ∀ p ∈ rest, p.1 ≠ d1)
   (hpos : 0 ≤ pos) (hln : buf.length ≤ 1000) (hr : buf.cps.toList.drop pos.toNat = c :: r) (hne : ((((⟨#[c]⟩ : Str).length : Nat) : Int) != 0) = true) (hnl : ((⟨#[c]⟩ : Str) == Str.ofString "\n") = false) (hws : ((Builtin.Str.occurrences (Str.ofString " \t\r\n") ⟨#[c]⟩ 0 (Str.ofString " \t\r\n").length 1).isEmpty = true)) (hha : ((Builtin.Str.occurrences (Str.ofString "#") ⟨#[c]⟩ 0 (Str.ofString "#").length 1).isEmpty = true)) (hbs : ((Builtin.Str.occurrences (Str.ofString "\\") ⟨#[c]⟩ 0 (Str.ofString "\\").length 1).isEmpty = true)) (hwd : (Builtin.Str.occurrences wc ⟨#[c]⟩ 0 wc.length 1).isEmpty = true) (hqu : ((Builtin.Str.occurrences (Str.ofString "'\"") ⟨#[c]⟩ 0 (Str.ofString "'\"").length 1).isEmpty = true)) (hem : ((Builtin.Str.occurrences (Str.ofString "") ⟨#[c]⟩ 0 (Str.ofString "").length 1).isEmpty = true)) (htk : (((token.length : Nat) : Int) != 0) = true) (htl : token.length ≤ 1000) :
   TurnC w mean mg mb b sc (rtM lx te nc) (lexN w.params sx sd lx ld d1 d2 k1 k2 k3 t1 t2 t3 kk vv wc buf pos (.str (Str.ofString "a") tst) lineno tl token tt (deq0 st) rest)
     (fun fl m' news' => ∃ nc' t3' tst' tc, fl = .brk ∧ m' = rtM lx te nc' ∧  news' = lexN w.params sx sd lx ld d1 d2 k1 k2 k3 t1 t2 t3' kk vv wc buf (pos + 1) (.str (Str.ofString " ") tst') lineno tl token tt (deq1 (st + 1) (.str ⟨#[c]⟩ tc)) rest) := by
  unfold TurnC
  k_fill
  obtain ⟨e1, e2⟩ := hb.uniq ⟨_, _, _, _, _, _, _, _, _, _, _, _, _, _, _, _, _, _, by k_is⟩
  subst e1 e2
  intro dp un gd cn cs a ccd cl outer base g L L' s Q E B F X N T hdp hun hret
  have hqa := occ_qu_a
  have hba := occ_bs_a
  k_steps
  all_goals exact hret _ _ _ _ _ ⟨_, _, _, _, rfl, rtM_set, rfl⟩ (by k_asm) (by first | k_asm | exact news_tail (by k_asm))

end Mine
end

-- E3
section
namespace Mine

theorem lines_E3_0 : True := by
  k_with_none
  trivial
theorem lines_E3_1 : True := by
  k_with "call ref" => (k_here; (try dsimp only); (with_reducible show wpAny _ _ (call (Value.ref 575) _ _) _ _ _); k_dflt (refine' ctr_use2 (by k_asm) (by k_asm) (by k_asm) (by first | k_asm | exact news_tail (by k_asm)) (by k_asm) (by first | exact rfl | assumption) (by ktr_room) (by ktr_units) (read_end _ _ _ _ _ _ _ _ _ _ _ _ _ _ _ _ (by omega) (by omega) (by assumption) (by omega)) ?_); rintro _ _ _ _ ⟨⟨_, rfl⟩, _⟩; (try dsimp only); (try k_fold))
  k_with "call ref" => (k_here; (try dsimp only); (with_reducible show wpAny _ _ (call (Value.ref 583) _ _) _ _ _); k_dflt (refine' ctr_use2 (by k_asm) (by k_asm) (by k_asm) (by first | k_asm | exact news_tail (by k_asm)) (by k_asm) (by first | exact rfl | assumption) (by ktr_room) (by ktr_units) (readline_c _ _ _ _ _ _ _ _ _ _ _ _ _ _ _ (by k_all) (by omega) (by omega) (by omega)) ?_); rintro _ _ _ _ ⟨⟨_, _, rfl⟩, _, _, _, _, _⟩; (try dsimp only); (try k_fold))
  k_with "getAttr ref" => (k_here; (with_reducible show wpAny _ _ (getAttr (Value.ref _) (Str.ofString "punctuation_chars") _) _ _ _); k_dflt (refine' get_pc _ _ _ _ _ _ _ _ _ _ _ _ _ _ _ _ _ _ (by k_asm) (by k_asm) (by k_asm) (by k_asm) (by k_asm) (by first | exact rfl | assumption) (by ktr_room) (by ktr_units) (by k_mem) (by k_mem) ?_); intro _ _ _ _; (try dsimp only); (try k_fold))
  k_with "ite" => (k_here; first | (refine PySem.W.ite_pos (by with_reducible assumption) ?_) | (refine ite_isFalse (by with_reducible assumption) ?_))
  k_with "exec If" => (k_here; (try k_fold); refine wpAny_If ?_)
  k_with "truthy str" => (k_here; (with_reducible show wpAny _ _ (PySem.truthy (Value.str _ _)) _ _ _); first | (refine KXt.truthy (by k_dflt kxw_bool) (by decide +kernel) ?_; intro _) | (refine SBL.truthy (by omega) ?_))
  k_with "getMethod ref" => (k_here; (with_reducible show wpAny _ _ (getMethod (Value.ref _) (Str.ofString "appendleft") _) _ _ _); k_dflt (refine' getMethod_appendleft (by k_asm) (by k_mem) (by exact rfl) (by exact rfl) ?_; k_whole))
  k_with "call builtin:collections.deque.appendleft" => (k_here; k_dflt (refine' appendleft_K (by k_asm) (by k_asm) (by k_upd) ?_; k_whole); intro _ _ _; (try k_sweep))
  trivial
set_option maxRecDepth 100000 in
set_option maxHeartbeats 8000000 in
theorem turn_sp_eof (w : World) (mean : ExcName → Option Value) (mg mb : Str → Option Value) (b : List Stmt) (sc : Scope) (hb : RtBody (KF w.params) b sc) (rest : List (Addr × Obj)) (sx sd lx ld d1 d2 k1 k2 k3 t1 t2 t3 : Nat) (kk vv : Nat → Nat) (wc buf : Str) (pos lineno : Int) (tst tl tt te : Nat) (nc : Option Value) (pb : Obj)
   (h1 : sd < sx) (h2 : lx < sd) (h3 : ld < lx) (h4 : sx < d1) (h5 : d1 < d2) (hr1 : ∀ p ∈ rest, p.1 ≠ sd) (hr2 : ∀ p ∈ rest, p.1 ≠ ld) (hr3 : ∀ p ∈ rest, p.1 ≠ d1)
   (hpos : 0 ≤ pos) (hln : buf.length ≤ 1000) (hr : buf.cps.toList.drop pos.toNat = []) :
   TurnC w mean mg mb b sc (rtM lx te nc) (lexN w.params sx sd lx ld d1 d2 k1 k2 k3 t1 t2 t3 kk vv wc buf pos (.str (Str.ofString " ") tst) lineno tl (Str.ofString "") tt pb rest)
     (fun fl m' news' => ∃ nc' t3' , fl = .brk ∧ m' = rtM lx te nc' ∧  news' = lexN w.params sx sd lx ld d1 d2 k1 k2 k3 t1 t2 t3' kk vv wc buf pos .none lineno tl (Str.ofString "") tt pb rest) := by
  unfold TurnC
  k_fill
  obtain ⟨e1, e2⟩ := hb.uniq ⟨_, _, _, _, _, _, _, _, _, _, _, _, _, _, _, _, _, _, by k_is⟩
  subst e1 e2
  intro dp un gd cn cs a ccd cl outer base g L L' s Q E B F X N T hdp hun hret
  k_steps
  all_goals exact hret _ _ _ _ _ ⟨_, _, rfl, rtM_set, rfl⟩ (by k_asm) (by first | k_asm | exact news_tail (by k_asm))
set_option maxRecDepth 100000 in
set_option maxHeartbeats 8000000 in
theorem turn_a_eof (w : World) (mean : ExcName → Option Value) (mg mb : Str → Option Value) (b : List Stmt) (sc : Scope) (hb : RtBody (KF w.params) b sc) (rest : List (Addr × Obj)) (sx sd lx ld d1 d2 k1 k2 k3 t1 t2 t3 : Nat) (kk vv : Nat → Nat) (wc buf : Str) (pos lineno : Int) (tst tl tt te : Nat) (nc : Option Value) (pb : Obj) (token : Str)
   (h1 : sd < sx) (h2 : lx < sd) (h3 : ld < lx) (h4 : sx < d1) (h5 : d1 < d2) (hr1 : ∀ p ∈ rest, p.1 ≠ sd) (hr2 : ∀ p ∈ rest, p.1 ≠ ld) (hr3 : ∀ p ∈ rest, p.1 ≠ d1)
   (hpos : 0 ≤ pos) (hln : buf.length ≤ 1000) (hr : buf.cps.toList.drop pos.toNat = []) :
   TurnC w mean mg mb b sc (rtM lx te nc) (lexN w.params sx sd lx ld d1 d2 k1 k2 k3 t1 t2 t3 kk vv wc buf pos (.str (Str.ofString "a") tst) lineno tl token tt pb rest)
     (fun fl m' news' => ∃ nc' t3' , fl = .brk ∧ m' = rtM lx te nc' ∧  news' = lexN w.params sx sd lx ld d1 d2 k1 k2 k3 t1 t2 t3' kk vv wc buf pos .none lineno tl token tt pb rest) := by
  unfold TurnC
  k_fill
  obtain ⟨e1, e2⟩ := hb.uniq ⟨_, _, _, _, _, _, _, _, _, _, _, _, _, _, _, _, _, _, by k_is⟩
  subst e1 e2
  intro dp un gd cn cs a ccd cl outer base g L L' s Q E B F X N T hdp hun hret
  have hqa := occ_qu_a
  have hba := occ_bs_a
  k_steps
  all_goals exact hret _ _ _ _ _ ⟨_, _, rfl, rtM_set, rfl⟩ (by k_asm) (by first | k_asm | exact news_tail (by k_asm))
set_option maxRecDepth 100000 in
set_option maxHeartbeats 8000000 in
theorem turn_none_eof (w : World) (mean : ExcName → Option Value) (mg mb : Str → Option Value) (b : List Stmt) (sc : Scope) (hb : RtBody (KF w.params) b sc) (rest : List (Addr × Obj)) (sx sd lx ld d1 d2 k1 k2 k3 t1 t2 t3 : Nat) (kk vv : Nat → Nat) (wc buf : Str) (pos lineno : Int) (tst tl tt te : Nat) (nc : Option Value) (pb : Obj)
   (h1 : sd < sx) (h2 : lx < sd) (h3 : ld < lx) (h4 : sx < d1) (h5 : d1 < d2) (hr1 : ∀ p ∈ rest, p.1 ≠ sd) (hr2 : ∀ p ∈ rest, p.1 ≠ ld) (hr3 : ∀ p ∈ rest, p.1 ≠ d1)
   (hpos : 0 ≤ pos) (hln : buf.length ≤ 1000) (hr : buf.cps.toList.drop pos.toNat = []) :
   TurnC w mean mg mb b sc (rtM lx te nc) (lexN w.params sx sd lx ld d1 d2 k1 k2 k3 t1 t2 t3 kk vv wc buf pos .none lineno tl (Str.ofString "") tt pb rest)
     (fun fl m' news' => ∃ nc' t3' tt', fl = .brk ∧ m' = rtM lx te nc' ∧  news' = lexN w.params sx sd lx ld d1 d2 k1 k2 k3 t1 t2 t3' kk vv wc buf pos .none lineno tl (Str.ofString "") tt' pb rest) := by
  unfold TurnC
  k_fill
  obtain ⟨e1, e2⟩ := hb.uniq ⟨_, _, _, _, _, _, _, _, _, _, _, _, _, _, _, _, _, _, by k_is⟩
  subst e1 e2
  intro dp un gd cn cs a ccd cl outer base g L L' s Q E B F X N T hdp hun hret
  k_steps
  all_goals exact hret _ _ _ _ _ ⟨_, _, _, rfl, rtM_set, rfl⟩ (by k_asm) (by first | k_asm | exact news_tail (by k_asm))

end Mine
end

-- F1
section
namespace Mine

theorem lines_F1_0 : True := by
  k_with_none
  trivial
theorem str_one_ne (c : Nat) : ((((⟨#[c]⟩ : Str).length : Nat) : Int) != 0) = true := rfl
theorem nl_true : ((⟨#[10]⟩ : Str) == Str.ofString "\n") = true := by decide +kernel
theorem nl_false {c : Nat} (h : c ≠ 10) : ((⟨#[c]⟩ : Str) == Str.ofString "\n") = false := by
  have en : Str.ofString "\n" = ⟨#[10]⟩ := by decide +kernel
  rw [en]
  refine beq_eq_false_iff_ne.mpr fun e => h ?_
  have := congrArg (fun x : Str => x.cps.toList) e
  simpa using this
theorem occ_is (x : Str) (c : Nat) (b : Bool) (h : decide (c ∈ x.cps.toList) = !b) : (Builtin.Str.occurrences x ⟨#[c]⟩ 0 x.length 1).isEmpty = b := by
  have := StrLaws.found_one x c
  rw [h] at this
  cases b <;> simpa using this
theorem cps_ws : (Str.ofString " \t\r\n").cps.toList = [32, 9, 13, 10] := by decide +kernel
theorem cps_ha : (Str.ofString "#").cps.toList = [35] := by decide +kernel
theorem cps_bs : (Str.ofString "\\").cps.toList = [92] := by decide +kernel
theorem cps_qu : (Str.ofString "'\"").cps.toList = [39, 34] := by decide +kernel
theorem cps_em : (Str.ofString "").cps.toList = [] := by decide +kernel
theorem occ_ws_t {c : Nat} (h : isWsC c = true) : (Builtin.Str.occurrences (Str.ofString " \t\r\n") ⟨#[c]⟩ 0 (Str.ofString " \t\r\n").length 1).isEmpty = false :=
  occ_is _ _ _ (by rw [cps_ws]; simp [isWsC] at h ⊢; omega)
theorem occ_ws_f {c : Nat} (h : isWsC c = false) : (Builtin.Str.occurrences (Str.ofString " \t\r\n") ⟨#[c]⟩ 0 (Str.ofString " \t\r\n").length 1).isEmpty = true :=
  occ_is _ _ _ (by rw [cps_ws]; simp [isWsC] at h ⊢; omega)
theorem occ_ha_t : (Builtin.Str.occurrences (Str.ofString "#") ⟨#[35]⟩ 0 (Str.ofString "#").length 1).isEmpty = false := occ_is _ _ _ (by rw [cps_ha]; rfl)
theorem occ_ha_f {c : Nat} (h : c ≠ 35) : (Builtin.Str.occurrences (Str.ofString "#") ⟨#[c]⟩ 0 (Str.ofString "#").length 1).isEmpty = true :=
  occ_is _ _ _ (by rw [cps_ha]; simpa using h)
theorem occ_bs_f {c : Nat} (h : isWordC c = true ∨ isPunC c = true) : (Builtin.Str.occurrences (Str.ofString "\\") ⟨#[c]⟩ 0 (Str.ofString "\\").length 1).isEmpty = true :=
  occ_is _ _ _ (by rw [cps_bs]; simp [isWordC, isPunC] at h ⊢; omega)
theorem occ_qu_f {c : Nat} (h : isWordC c = true ∨ isPunC c = true) : (Builtin.Str.occurrences (Str.ofString "'\"") ⟨#[c]⟩ 0 (Str.ofString "'\"").length 1).isEmpty = true :=
  occ_is _ _ _ (by rw [cps_qu]; simp [isWordC, isPunC] at h ⊢; omega)
theorem occ_em_f (c : Nat) : (Builtin.Str.occurrences (Str.ofString "") ⟨#[c]⟩ 0 (Str.ofString "").length 1).isEmpty = true := occ_is _ _ _ (by rw [cps_em]; rfl)
/-- the word signs are as the lexer wants them -/
def WcOk (wc : Str) : Prop := (∀ c, isWordC c = true → c ∈ wc.cps.toList) ∧ ∀ c, isPunC c = true → c ∉ wc.cps.toList
theorem occ_wc_t {wc : Str} (o : WcOk wc) {c : Nat} (h : isWordC c = true) : (Builtin.Str.occurrences wc ⟨#[c]⟩ 0 wc.length 1).isEmpty = false := occ_is _ _ _ (by simp [o.1 c h])
theorem occ_wc_f {wc : Str} (o : WcOk wc) {c : Nat} (h : isPunC c = true) : (Builtin.Str.occurrences wc ⟨#[c]⟩ 0 wc.length 1).isEmpty = true := occ_is _ _ _ (by simp [o.2 c h])
theorem drop_next {l : List Nat} {pos : Int} {c : Nat} {r : List Nat} (h0 : 0 ≤ pos) (h : l.drop pos.toNat = c :: r) : l.drop (pos + 1).toNat = r := by
  rw [show (pos + 1).toNat = pos.toNat + 1 by omega, ← List.drop_drop, h]; rfl
def Same (o : RT) (lineno : Int) (out : RT) (LN : Int) : Prop := o.tok = out.tok ∧ o.ended = out.ended ∧ o.push = out.push ∧ o.rest = out.rest ∧ lineno + (o.lines : Int) = LN
theorem Same.more {o out : RT} {lineno LN : Int} (h : Same o.more lineno out LN) : Same o (lineno + 1) out LN := ⟨h.1, h.2.1, h.2.2.1, h.2.2.2.1, by
  have := h.2.2.2.2
  have e : o.more.lines = o.lines + 1 := rfl
  rw [e] at this
  omega⟩
theorem no_push {o : Option Nat} {P : Nat → Prop} (e : none = o) : ∀ c, o = some c → P c := fun c h => absurd (e.trans h) (by simp)
def tokS (l : List Nat) : Str := if l = [] then Str.ofString "" else ⟨l.toArray⟩
theorem tokS_ne {l : List Nat} (h : l ≠ []) : tokS l = ⟨l.toArray⟩ := if_neg h
theorem tokS_one (c : Nat) : tokS [c] = ⟨#[c]⟩ := rfl
theorem tokS_nil : tokS [] = Str.ofString "" := rfl
theorem tokS_push {l : List Nat} (h : l ≠ []) (c : Nat) : tokS l ++ ⟨#[c]⟩ = tokS (l ++ [c]) := by
  rw [tokS_ne h, tokS_ne (by simp)]
  show (⟨l.toArray ++ #[c]⟩ : Str) = _
  simp
theorem tokS_len {l : List Nat} (h : l ≠ []) : ((((tokS l).length : Nat) : Int) != 0) = true := by
  rw [tokS_ne h]
  show ((l.toArray.size : Int) != 0) = true
  have : l.length ≠ 0 := by simpa using h
  refine bne_iff_ne.mpr ?_
  simp only [List.size_toArray]
  omega
/-- how the lexer stands behind the loop -/
def RtEnd (buf : Str) (st : Int) (out : RT) (pos' : Int) (state' : Value) (token' : Str) (pb' : Obj) : Prop :=
  0 ≤ pos' ∧ buf.cps.toList.drop pos'.toNat = out.rest ∧ token' = tokS out.tok ∧ (out.ended = true → state' = .none) ∧ (out.ended = false → ∃ t, state' = .str (Str.ofString " ") t) ∧
    (out.push = none → pb' = deq0 st) ∧ (∀ c, out.push = some c → ∃ t, pb' = deq1 (st + 1) (.str ⟨#[c]⟩ t))
def RtMode (r : List Nat) (state : Value) (lineno : Int) (token : Str) (out : RT) (LN : Int) : Prop :=
  (∃ tst, state = .str (Str.ofString " ") tst ∧ token = Str.ofString "" ∧ Same (rdS false r) lineno out LN) ∨
  (∃ tst tok, state = .str (Str.ofString "a") tst ∧ tok ≠ [] ∧ token = tokS tok ∧ tok.length + r.length ≤ 1000 ∧ Same (rdA tok r) lineno out LN) ∨
  (state = .none ∧ token = Str.ofString "" ∧ r = [] ∧ Same ⟨[], true, none, [], 0⟩ lineno out LN)
abbrev RtJ (P : Params) (sx sd lx ld d1 d2 k1 k2 k3 t1 t2 te : Nat) (kk vv : Nat → Nat) (wc buf : Str) (st : Int) (rest : List (Addr × Obj)) (out : RT) (LN : Int) (n : Nat) (m : Str → Option Value) (news : List (Addr × Obj)) : Prop :=
  ∃ nc t3 pos state lineno tl token tt, m = rtM lx te nc ∧ news = lexN P sx sd lx ld d1 d2 k1 k2 k3 t1 t2 t3 kk vv wc buf pos state lineno tl token tt (deq0 st) rest ∧ 0 ≤ pos ∧
    n = (buf.cps.toList.drop pos.toNat).length ∧ (∀ c ∈ buf.cps.toList.drop pos.toNat, goodC c = true) ∧ RtMode (buf.cps.toList.drop pos.toNat) state lineno token out LN
theorem good_cases {c : Nat} (h : goodC c = true) : (c = 10) ∨ (isWsC c = true ∧ c ≠ 10) ∨ c = 35 ∨ (isWsC c = false ∧ c ≠ 35 ∧ c ≠ 10 ∧ isWordC c = true) ∨ (isWsC c = false ∧ c ≠ 35 ∧ c ≠ 10 ∧ isWordC c = false ∧ isPunC c = true) := by
  by_cases h1 : c = 10
  · exact .inl h1
  · by_cases h2 : isWsC c = true
    · exact .inr (.inl ⟨h2, h1⟩)
    · by_cases h3 : c = 35
      · exact .inr (.inr (.inl h3))
      · by_cases h4 : isWordC c = true
        · exact .inr (.inr (.inr (.inl ⟨by simpa using h2, h3, h1, h4⟩)))
        · refine .inr (.inr (.inr (.inr ⟨by simpa using h2, h3, h1, by simpa using h4, ?_⟩)))
          simp only [goodC, Bool.or_eq_true, beq_iff_eq] at h
          rcases h with ((h | h) | h) | h
          · exact absurd h h2
          · exact absurd h h3
          · exact h
          · exact absurd h h4
theorem isTrue_tt {M : Model} {A : Around} {E : Value → Shared → Prop} {s : Shared} {env : Env} {k : Nat} {p : Pos} {Q : Bool → Shared → Prop} (h : Q true s) :
    wpAny M A (isTrue (.Constant (.bool true) k p) env (eval (.Constant (.bool true) k p) env)) Q E s := by
  show wpAny M A (do let v ← eval (.Constant (.bool true) k p) env; standAt _; holding [v] (truthy v)) Q E s
  refine wpAny_bind (wpAny_pure (wpAny_bind (wpAny_standAt (wpAny_holding (wpAny_truthy_bool h)))))
set_option maxRecDepth 100000 in
set_option maxHeartbeats 8000000 in
theorem rt_loop (w : World) (mean : ExcName → Option Value) (mg mb : Str → Option Value) (b : List Stmt) (sc : Scope) (hb : RtBody (KF w.params) b sc) (rest : List (Addr × Obj)) (sx sd lx ld d1 d2 k1 k2 k3 t1 t2 te : Nat) (kk vv : Nat → Nat) (wc buf : Str) (st : Int) (out : RT) (LN : Int)
   (h1 : sd < sx) (h2 : lx < sd) (h3 : ld < lx) (h4 : sx < d1) (h5 : d1 < d2) (hr1 : ∀ p ∈ rest, p.1 ≠ sd) (hr2 : ∀ p ∈ rest, p.1 ≠ ld) (hr3 : ∀ p ∈ rest, p.1 ≠ d1) (hln : buf.length ≤ 1000) (hwc : WcOk wc)
   {dp un : Nat} {gd : Option (List Code)} {cn : Str} {cs : Scope} {a : Addr} {ccd : Value} {cl : List (Str × Addr)} {outer : List Env} {base g : Heap} {L L' : Addr} {s : Shared} {Q : Flow → Shared → Prop} {E : Value → Shared → Prop} {m : Str → Option Value} {news : List (Addr × Obj)} {n : Nat} {k0 : Nat} {p0 p1 : Pos}
   (B : Below (ktrTop dp un gd cn cs L a ccd cl outer) base (envX cn cs L a ccd cl :: outer) g) (F : Fr g L' s.heap m) (X : (KF w.params).In g) (N : News g L' s.heap news) (T : Top QV LO mean mg mb g)
   (hdp : dp + 6 < recursionLimit) (hun : un + 60 < cLine) (hJ : RtJ w.params sx sd lx ld d1 d2 k1 k2 k3 t1 t2 te kk vv wc buf st rest out LN n m news)
   (hE : PassesOwn (model PySem.Challenge.rw_of0105_01.row.prog w) ((ktrTop dp un gd cn cs L a ccd cl outer).deeper (envOf (Str.ofString "shlex.read_token") sc L' 732 (.ref 731))) (envOf (Str.ofString "shlex.read_token") sc L' 732 (.ref 731)) E)
   (hbrk : ∀ nc t3 pos' state' tl' token' tt' pb' h' tk', RtEnd buf st out pos' state' token' pb' → Fr g L' h' (rtM lx te nc) →
      News g L' h' (lexN w.params sx sd lx ld d1 d2 k1 k2 k3 t1 t2 t3 kk vv wc buf pos' state' LN tl' token' tt' pb' rest) → Q .next { s with heap := h', toks := tk' }) :
   wpAny (model PySem.Challenge.rw_of0105_01.row.prog w) ((ktrTop dp un gd cn cs L a ccd cl outer).deeper (envOf (Str.ofString "shlex.read_token") sc L' 732 (.ref 731)))
        (exec (.While (.Constant (.bool true) k0 p0) b [] p1) (envOf (Str.ofString "shlex.read_token") sc L' 732 (.ref 731))) Q E s := by
  refine While_inv2 (RtJ w.params sx sd lx ld d1 d2 k1 k2 k3 t1 t2 te kk vv wc buf st rest out LN) F N hJ ?_ hE
  rintro n₁ m₁ news₁ h₁ tk₁ F₁ N₁ ⟨nc, t3, pos, state, lineno, tl, token, tt, rfl, rfl, hpos, hn, hgood, hmode⟩
  refine isTrue_tt ?_
  rw [if_pos rfl]
  generalize hr : buf.cps.toList.drop pos.toNat = r at hn hgood hmode
  rcases hmode with ⟨tst, rfl, rfl, hS⟩ | ⟨tst, tok, rfl, hne, rfl, htl, hS⟩ | ⟨rfl, rfl, rfl, hS⟩
  · cases r with
    | nil =>
      refine turn_sp_eof w mean mg mb b sc hb rest sx sd lx ld d1 d2 k1 k2 k3 t1 t2 t3 kk vv wc buf pos lineno tst tl tt te nc (deq0 st) h1 h2 h3 h4 h5 hr1 hr2 hr3 hpos hln hr dp un gd cn cs a ccd cl outer base g L L' _ _ _ B F₁ X N₁ T hdp hun ?_
      rintro fl m' news' h' tk' ⟨nc', t3', rfl, rfl, rfl⟩ F' N'
      obtain ⟨e1, e2, e3, e4, e5⟩ := hS
      have e5' : lineno + 0 = LN := e5
      rw [Int.add_zero] at e5'
      subst e5'
      exact hbrk _ _ _ _ _ _ _ _ _ _ ⟨hpos, hr.trans e4, by rw [← e1]; rfl, fun _ => rfl, fun h => absurd (e2.trans h) (by decide), fun _ => rfl, no_push e3⟩ F' N'
    | cons c r =>
      have hc := hgood c (.head _)
      have hgr : ∀ x ∈ r, goodC x = true := fun x hx => hgood x (.tail _ hx)
      have hr' := drop_next hpos hr
      rcases good_cases hc with rfl | ⟨w1, w2⟩ | rfl | ⟨w1, w2, w3, w4⟩ | ⟨w1, w2, w3, w4, w5⟩
      · refine turn_sp_nl w mean mg mb b sc hb rest sx sd lx ld d1 d2 k1 k2 k3 t1 t2 t3 kk vv wc buf pos lineno tst tl tt te nc _ r (deq0 st) h1 h2 h3 h4 h5 hr1 hr2 hr3 hpos hln hr (str_one_ne _) nl_true (occ_ws_t rfl) dp un gd cn cs a ccd cl outer base g L L' _ _ _ B F₁ X N₁ T hdp hun ?_
        rintro fl m' news' h' tk' ⟨nc', t3', tl', rfl, rfl, rfl⟩ F' N'
        refine ⟨h', tk', _, _, r.length, rfl, F', N', by rw [hn]; simp, nc', t3', _, _, _, _, _, _, rfl, rfl, by omega, by rw [hr'], by rw [hr']; exact hgr, .inl ⟨tst, rfl, rfl, ?_⟩⟩
        rw [hr']
        rw [rdS, if_pos rfl] at hS
        exact hS.more
      · refine turn_sp_ws w mean mg mb b sc hb rest sx sd lx ld d1 d2 k1 k2 k3 t1 t2 t3 kk vv wc buf pos lineno tst tl tt te nc _ r (deq0 st) h1 h2 h3 h4 h5 hr1 hr2 hr3 hpos hln hr (str_one_ne _) (nl_false w2) (occ_ws_t w1) dp un gd cn cs a ccd cl outer base g L L' _ _ _ B F₁ X N₁ T hdp hun ?_
        rintro fl m' news' h' tk' ⟨nc', t3', rfl, rfl, rfl⟩ F' N'
        refine ⟨h', tk', _, _, r.length, rfl, F', N', by rw [hn]; simp, nc', t3', _, _, _, _, _, _, rfl, rfl, by omega, by rw [hr'], by rw [hr']; exact hgr, .inl ⟨tst, rfl, rfl, ?_⟩⟩
        rw [hr']
        rw [rdS, if_neg w2, if_pos w1] at hS
        exact hS
      · refine turn_sp_hash w mean mg mb b sc hb rest sx sd lx ld d1 d2 k1 k2 k3 t1 t2 t3 kk vv wc buf pos lineno tst tl tt te nc _ r (deq0 st) h1 h2 h3 h4 h5 hr1 hr2 hr3 hpos hln hr (str_one_ne _) (nl_false (by decide)) (occ_ws_f rfl) occ_ha_t dp un gd cn cs a ccd cl outer base g L L' _ _ _ B F₁ X N₁ T hdp hun ?_
        rintro fl m' news' h' tk' ⟨nc', t3', tl', pos', rfl, rfl, hp', hq', rfl⟩ F' N'
        rw [hr'] at hq'
        refine ⟨h', tk', _, _, (afterLine r).length, rfl, F', N', by rw [hn]; have := afterLine_len r; simp only [List.length_cons]; omega, nc', t3', _, _, _, _, _, _, rfl, rfl, hp', by rw [hq'], by rw [hq']; exact afterLine_good hgr, .inl ⟨tst, rfl, rfl, ?_⟩⟩
        rw [hq', ← rdS_skip]
        rw [rdS, if_neg (by decide), if_neg (by decide), if_pos rfl] at hS
        exact hS.more
      · refine turn_sp_word w mean mg mb b sc hb rest sx sd lx ld d1 d2 k1 k2 k3 t1 t2 t3 kk vv wc buf pos lineno tst tl tt te nc _ r (deq0 st) h1 h2 h3 h4 h5 hr1 hr2 hr3 hpos hln hr (str_one_ne _) (nl_false w3) (occ_ws_f w1) (occ_ha_f w2) (occ_bs_f (.inl w4)) (occ_wc_t hwc w4) (occ_qu_f (.inl w4)) (occ_em_f _) dp un gd cn cs a ccd cl outer base g L L' _ _ _ B F₁ X N₁ T hdp hun ?_
        rintro fl m' news' h' tk' ⟨nc', t3', tt', tst', rfl, rfl, rfl⟩ F' N'
        refine ⟨h', tk', _, _, r.length, rfl, F', N', by rw [hn]; simp, nc', t3', _, _, _, _, _, _, rfl, rfl, by omega, by rw [hr'], by rw [hr']; exact hgr, .inr (.inl ⟨tst', [c], rfl, by simp, rfl, ?_, ?_⟩)⟩
        · rw [hr']
          have := congrArg List.length hr
          simp only [List.length_drop, Array.length_toList, List.length_cons, List.length_nil] at this ⊢
          have e : buf.cps.size = buf.length := rfl
          omega
        · rw [hr']
          rw [rdS, if_neg w3, w1, if_neg Bool.false_ne_true, if_neg w2, if_pos w4] at hS
          exact hS
      · refine turn_sp_punct w mean mg mb b sc hb rest sx sd lx ld d1 d2 k1 k2 k3 t1 t2 t3 kk vv wc buf pos lineno tst tl tt te nc _ r (deq0 st) h1 h2 h3 h4 h5 hr1 hr2 hr3 hpos hln hr (str_one_ne _) (nl_false w3) (occ_ws_f w1) (occ_ha_f w2) (occ_bs_f (.inr w5)) (occ_wc_f hwc w5) (occ_qu_f (.inr w5)) (occ_em_f _) dp un gd cn cs a ccd cl outer base g L L' _ _ _ B F₁ X N₁ T hdp hun ?_
        rintro fl m' news' h' tk' ⟨nc', t3', tt', rfl, rfl, rfl⟩ F' N'
        rw [rdS, if_neg w3, w1, if_neg Bool.false_ne_true, if_neg w2, w4, if_neg Bool.false_ne_true] at hS
        obtain ⟨e1, e2, e3, e4, e5⟩ := hS
        have e5' : lineno + 0 = LN := e5
        rw [Int.add_zero] at e5'
        subst e5'
        exact hbrk _ _ _ _ _ _ _ _ _ _ ⟨by omega, hr'.trans e4, by rw [← e1]; rfl, fun h => absurd (e2.trans h) Bool.false_ne_true, fun _ => ⟨_, rfl⟩, fun _ => rfl, no_push e3⟩ F' N'
  · have htl' : tok.length ≤ 1000 := by omega
    cases r with
    | nil =>
      refine turn_a_eof w mean mg mb b sc hb rest sx sd lx ld d1 d2 k1 k2 k3 t1 t2 t3 kk vv wc buf pos lineno tst tl tt te nc (deq0 st) (tokS tok) h1 h2 h3 h4 h5 hr1 hr2 hr3 hpos hln hr dp un gd cn cs a ccd cl outer base g L L' _ _ _ B F₁ X N₁ T hdp hun ?_
      rintro fl m' news' h' tk' ⟨nc', t3', rfl, rfl, rfl⟩ F' N'
      obtain ⟨e1, e2, e3, e4, e5⟩ := hS
      have e5' : lineno + 0 = LN := e5
      rw [Int.add_zero] at e5'
      subst e5'
      exact hbrk _ _ _ _ _ _ _ _ _ _ ⟨hpos, hr.trans e4, by rw [← e1]; rfl, fun _ => rfl, fun h => absurd (e2.trans h) (by simp [rdA]), fun _ => rfl, no_push e3⟩ F' N'
    | cons c r =>
      have hc := hgood c (.head _)
      have hgr : ∀ x ∈ r, goodC x = true := fun x hx => hgood x (.tail _ hx)
      have hr' := drop_next hpos hr
      rcases good_cases hc with rfl | ⟨w1, w2⟩ | rfl | ⟨w1, w2, w3, w4⟩ | ⟨w1, w2, w3, w4, w5⟩
      · refine turn_a_nl w mean mg mb b sc hb rest sx sd lx ld d1 d2 k1 k2 k3 t1 t2 t3 kk vv wc buf pos lineno tst tl tt te nc _ r (tokS tok) (deq0 st) h1 h2 h3 h4 h5 hr1 hr2 hr3 hpos hln hr (str_one_ne _) nl_true (occ_ws_t rfl) (tokS_len hne) (by rw [tokS_ne hne]; show tok.toArray.size ≤ 1000; simp; omega) dp un gd cn cs a ccd cl outer base g L L' _ _ _ B F₁ X N₁ T hdp hun ?_
        rintro fl m' news' h' tk' ⟨nc', t3', tst', tl', rfl, rfl, rfl⟩ F' N'
        rw [rdA, if_pos rfl] at hS
        obtain ⟨e1, e2, e3, e4, e5⟩ := hS
        have e5' : lineno + 1 = LN := e5
        subst e5'
        exact hbrk _ _ _ _ _ _ _ _ _ _ ⟨by omega, hr'.trans e4, by rw [← e1], fun h => absurd (e2.trans h) Bool.false_ne_true, fun _ => ⟨_, rfl⟩, fun _ => rfl, no_push e3⟩ F' N'
      · refine turn_a_ws w mean mg mb b sc hb rest sx sd lx ld d1 d2 k1 k2 k3 t1 t2 t3 kk vv wc buf pos lineno tst tl tt te nc _ r (tokS tok) (deq0 st) h1 h2 h3 h4 h5 hr1 hr2 hr3 hpos hln hr (str_one_ne _) (nl_false w2) (occ_ws_t w1) (tokS_len hne) (by rw [tokS_ne hne]; show tok.toArray.size ≤ 1000; simp; omega) dp un gd cn cs a ccd cl outer base g L L' _ _ _ B F₁ X N₁ T hdp hun ?_
        rintro fl m' news' h' tk' ⟨nc', t3', tst', rfl, rfl, rfl⟩ F' N'
        rw [rdA, if_neg w2, if_pos w1] at hS
        obtain ⟨e1, e2, e3, e4, e5⟩ := hS
        have e5' : lineno + 0 = LN := e5
        rw [Int.add_zero] at e5'
        subst e5'
        exact hbrk _ _ _ _ _ _ _ _ _ _ ⟨by omega, hr'.trans e4, by rw [← e1], fun h => absurd (e2.trans h) Bool.false_ne_true, fun _ => ⟨_, rfl⟩, fun _ => rfl, no_push e3⟩ F' N'
      · refine turn_a_hash w mean mg mb b sc hb rest sx sd lx ld d1 d2 k1 k2 k3 t1 t2 t3 kk vv wc buf pos lineno tst tl tt te nc _ r (tokS tok) (deq0 st) h1 h2 h3 h4 h5 hr1 hr2 hr3 hpos hln hr (str_one_ne _) (nl_false (by decide)) (occ_ws_f rfl) occ_ha_t (tokS_len hne) (by rw [tokS_ne hne]; show tok.toArray.size ≤ 1000; simp; omega) dp un gd cn cs a ccd cl outer base g L L' _ _ _ B F₁ X N₁ T hdp hun ?_
        rintro fl m' news' h' tk' ⟨nc', t3', tst', tl', pos', rfl, rfl, hp', hq', rfl⟩ F' N'
        rw [hr'] at hq'
        rw [rdA, if_neg (by decide), if_neg (by decide), if_pos rfl] at hS
        obtain ⟨e1, e2, e3, e4, e5⟩ := hS
        have e5' : lineno + 1 = LN := e5
        subst e5'
        exact hbrk _ _ _ _ _ _ _ _ _ _ ⟨hp', hq'.trans e4, by rw [← e1], fun h => absurd (e2.trans h) Bool.false_ne_true, fun _ => ⟨_, rfl⟩, fun _ => rfl, no_push e3⟩ F' N'
      · refine turn_a_word w mean mg mb b sc hb rest sx sd lx ld d1 d2 k1 k2 k3 t1 t2 t3 kk vv wc buf pos lineno tst tl tt te nc _ r (tokS tok) (deq0 st) h1 h2 h3 h4 h5 hr1 hr2 hr3 hpos hln hr (str_one_ne _) (nl_false w3) (occ_ws_f w1) (occ_ha_f w2) (occ_bs_f (.inl w4)) (occ_wc_t hwc w4) (occ_qu_f (.inl w4)) (occ_em_f _) (tokS_len hne) (by rw [tokS_ne hne]; show tok.toArray.size ≤ 1000; simp; omega) dp un gd cn cs a ccd cl outer base g L L' _ _ _ B F₁ X N₁ T hdp hun ?_
        rintro fl m' news' h' tk' ⟨nc', t3', tt', rfl, rfl, rfl⟩ F' N'
        refine ⟨h', tk', _, _, r.length, rfl, F', N', by rw [hn]; simp, nc', t3', _, _, _, _, _, _, rfl, rfl, by omega, by rw [hr'], by rw [hr']; exact hgr, .inr (.inl ⟨tst, tok ++ [c], rfl, by simp, tokS_push hne c, ?_, ?_⟩)⟩
        · rw [hr']
          simp only [List.length_append, List.length_cons, List.length_nil] at htl ⊢
          omega
        · rw [hr']
          rw [rdA, if_neg w3, w1, if_neg Bool.false_ne_true, if_neg w2, if_pos w4] at hS
          exact hS
      · refine turn_a_punct w mean mg mb b sc hb rest sx sd lx ld d1 d2 k1 k2 k3 t1 t2 t3 kk vv wc buf pos lineno tst tl tt te nc _ r (tokS tok) st h1 h2 h3 h4 h5 hr1 hr2 hr3 hpos hln hr (str_one_ne _) (nl_false w3) (occ_ws_f w1) (occ_ha_f w2) (occ_bs_f (.inr w5)) (occ_wc_f hwc w5) (occ_qu_f (.inr w5)) (occ_em_f _) (tokS_len hne) (by rw [tokS_ne hne]; show tok.toArray.size ≤ 1000; simp; omega) dp un gd cn cs a ccd cl outer base g L L' _ _ _ B F₁ X N₁ T hdp hun ?_
        rintro fl m' news' h' tk' ⟨nc', t3', tst', tc, rfl, rfl, rfl⟩ F' N'
        rw [rdA, if_neg w3, w1, if_neg Bool.false_ne_true, if_neg w2, w4, if_neg Bool.false_ne_true] at hS
        obtain ⟨e1, e2, e3, e4, e5⟩ := hS
        have e5' : lineno + 0 = LN := e5
        rw [Int.add_zero] at e5'
        subst e5'
        have e3' : some c = out.push := e3
        exact hbrk _ _ _ _ _ _ _ _ _ _ ⟨by omega, hr'.trans e4, by rw [← e1], fun h => absurd (e2.trans h) Bool.false_ne_true, fun _ => ⟨_, rfl⟩, fun h => absurd (e3'.trans h) (by simp), fun c' h => by cases (e3'.trans h); exact ⟨_, rfl⟩⟩ F' N'
  · refine turn_none_eof w mean mg mb b sc hb rest sx sd lx ld d1 d2 k1 k2 k3 t1 t2 t3 kk vv wc buf pos lineno 0 tl tt te nc (deq0 st) h1 h2 h3 h4 h5 hr1 hr2 hr3 hpos hln hr dp un gd cn cs a ccd cl outer base g L L' _ _ _ B F₁ X N₁ T hdp hun ?_
    rintro fl m' news' h' tk' ⟨nc', t3', tt', rfl, rfl, rfl⟩ F' N'
    obtain ⟨e1, e2, e3, e4, e5⟩ := hS
    have e5' : lineno + 0 = LN := e5
    rw [Int.add_zero] at e5'
    subst e5'
    exact hbrk _ _ _ _ _ _ _ _ _ _ ⟨hpos, hr.trans e4, by rw [← e1]; rfl, fun _ => rfl, fun h => absurd (e2.trans h) (by decide), fun _ => rfl, no_push e3⟩ F' N'

end Mine
end

-- F2
section
namespace Mine

theorem lines_F2_0 : True := by
  k_with_none
  trivial
/-- the value that read_token hands back -/
def rtVal (out : RT) (t : Nat) : Value := if out.tok = [] then .none else .str (tokS out.tok) t
theorem rtM_none {lx te : Nat} : (fun y => if y = Str.ofString "escapedstate" then some (Value.str (Str.ofString " ") te) else if y = Str.ofString "quoted" then some (Value.bool false) else List.lookup y [(Str.ofString "self", Value.ref lx)].reverse) = rtM lx te none := by
  funext y
  show _ = (if y = Str.ofString "nextchar" then none else _)
  by_cases h : y = Str.ofString "nextchar"
  · subst h; rfl
  · rw [if_neg h]; rfl
theorem tokS_eq_nil {l : List Nat} (h : l ≠ []) : (tokS l == Str.ofString "") = false := by
  have en : Str.ofString "" = ⟨#[]⟩ := by decide +kernel
  rw [en, tokS_ne h]
  refine beq_eq_false_iff_ne.mpr fun e => h ?_
  have := congrArg (fun x : Str => x.cps.toList) e
  simpa using this
theorem lines_F2_1 : True := by
  k_with "ite" => (k_here; first | (refine PySem.W.ite_pos (by with_reducible assumption) ?_) | (refine ite_isFalse (by with_reducible assumption) ?_))
  trivial
set_option maxRecDepth 100000 in
set_option maxHeartbeats 8000000 in
theorem read_token_c (w : World) (mean : ExcName → Option Value) (mg mb : Str → Option Value) (rest : List (Addr × Obj)) (sx sd lx ld d1 d2 k1 k2 k3 t1 t2 t3 : Nat) (kk vv : Nat → Nat) (wc buf : Str) (pos : Int) (state : Value) (lineno : Int) (tl tt : Nat) (st : Int) (out : RT) (LN : Int)
   (h1 : sd < sx) (h2 : lx < sd) (h3 : ld < lx) (h4 : sx < d1) (h5 : d1 < d2) (hr1 : ∀ p ∈ rest, p.1 ≠ sd) (hr2 : ∀ p ∈ rest, p.1 ≠ ld) (hr3 : ∀ p ∈ rest, p.1 ≠ d1) (hln : buf.length ≤ 1000) (hwc : WcOk wc)
   (hpos : 0 ≤ pos) (hgood : ∀ c ∈ buf.cps.toList.drop pos.toNat, goodC c = true) (hm : RtMode (buf.cps.toList.drop pos.toNat) state lineno (Str.ofString "") out LN) :
   Ctr w mean mg mb 732 [.ref lx] 8 (lexN w.params sx sd lx ld d1 d2 k1 k2 k3 t1 t2 t3 kk vv wc buf pos state lineno tl (Str.ofString "") tt (deq0 st) rest)
     (fun h₀ L _ h' v => ∃ t t3' pos' state' tl' tt' pb', v = rtVal out t ∧ RtEnd buf st out pos' state' (tokS out.tok) pb' ∧
       News h₀ L h' (lexN w.params sx sd lx ld d1 d2 k1 k2 k3 t1 t2 t3' kk vv wc buf pos' state' LN tl' (Str.ofString "") tt' pb' rest)) := by
  unfold Ctr
  k_fill
  intro dp un gd cn cs a ccd cl outer A₀ base h₀ L m s Q E B F X N T hk hdp hun hret
  refine wpAny_call ?_
  k_dflt (refine' code_def ?k1 ?k2 ?k3 ?k4 ?k5 ?kA ?kF ?kK ?k6 ?k7 ?k8 ?k9 ?kB ?_ ?c2 ?c3 ?c4 ?c5; (case kA => exact rfl); (case kF => exact rfl); (case kK => assumption); (case k1 => k_asm); (case k2 => k_asm); (case k3 => k_asm); (case k4 => k_asm); (case k5 => k_asm); (case k6 => k_is); (case k7 => k_is); (case k8 => ktr_room); (case k9 => exact kp_binds (binds := [(Str.ofString "self", .ref lx)]) (X.keeps F.keep) (fun S => by kernel_rfl)); (case c5 => decide); (case kB => exact locs rfl); (case c2 => exact rfl); (case c3 => exact rfl); (case c4 => exact rfl); k_whole; intro g' L' h' FG' F' N' B' X' T'; (try dsimp only); (try k_lift B'); (try k_fold))
  repeat' (first | (k_unfold; (try dsimp only)) | ((fail_if_success (with_reducible show wpAny _ _ (exec (Stmt.While _ _ _ _) _) _ _ _)); (first | walk1 | (dsimp only; walk1))))
  rename Fr _ _ _ _ => FF
  rename News _ _ _ _ => NN
  rw [rtM_none] at FF
  refine rt_loop w mean mg mb _ _ ?hb rest sx sd lx ld d1 d2 k1 k2 k3 t1 t2 _ kk vv wc buf st out LN h1 h2 h3 h4 h5 hr1 hr2 hr3 hln hwc B' FF X' NN T' (by omega) (by omega) ⟨_, _, _, _, _, _, _, _, rfl, rfl, hpos, rfl, hgood, hm⟩ ?hE ?_
  case hb => exact ⟨_, _, _, _, _, _, _, _, _, _, _, _, _, _, _, _, _, _, by k_is⟩
  case hE => first | passes_own | with_unfolding_all passes_own
  intro nc9 t39 pos9 state9 tl9 token9 tt9 pb9 h9 tk9 hend9 F9 N9
  clear FF NN
  obtain rfl := hend9.2.2.1
  dsimp only
  by_cases ho : out.tok = []
  · rw [ho, tokS_nil] at N9
    k_steps
    all_goals exact hret _ _ _ (by k_asm) ⟨0, _, _, _, _, _, _, by rw [rtVal, if_pos ho], hend9, by k_asm⟩
  · have hnb := tokS_len ho
    have hnc := tokS_eq_nil ho
    k_steps
    all_goals exact hret _ _ _ (by k_asm) ⟨_, _, _, _, _, _, _, by rw [rtVal, if_neg ho], hend9, by k_asm⟩

end Mine
end

-- F3
section
namespace Mine

theorem lines_F3_0 : True := by
  k_with_none
  trivial
theorem lines_F3_1 : True := by
  k_with "ite" => (k_here; first | (refine PySem.W.ite_pos (by with_reducible assumption) ?_) | (refine ite_isFalse (by with_reducible assumption) ?_))
  k_with "truthy ref" => (k_here; k_dflt (first | (refine' truthy_deq0 (by k_asm) (by k_mem) ?_; k_whole) | (refine' truthy_deq1 (by k_asm) (by k_mem) ?_; k_whole)))
  k_with "getMethod ref" => (k_here; (with_reducible show wpAny _ _ (getMethod (Value.ref _) (Str.ofString "popleft") _) _ _ _); k_dflt (refine' getMethod_popleft (by k_asm) (by k_mem) (by exact rfl) (by exact rfl) ?_; k_whole))
  k_with "call builtin:collections.deque.popleft" => (k_here; k_dflt (refine' popleft_K (by k_asm) (by k_asm) (by k_upd) ?_; k_whole); intro _ _ _; (try k_sweep))
  trivial
set_option maxRecDepth 100000 in
set_option maxHeartbeats 8000000 in
theorem get_token_push (w : World) (mean : ExcName → Option Value) (mg mb : Str → Option Value) (rest : List (Addr × Obj)) (sx sd lx ld d1 d2 k1 k2 k3 t1 t2 t3 : Nat) (kk vv : Nat → Nat) (wc buf : Str) (pos : Int) (state : Value) (lineno : Int) (tl tt : Nat) (st : Int) (v : Value)
   (h1 : sd < sx) (h2 : lx < sd) (h3 : ld < lx) (h4 : sx < d1) (h5 : d1 < d2) (hr1 : ∀ p ∈ rest, p.1 ≠ sd) (hr2 : ∀ p ∈ rest, p.1 ≠ ld) (hr3 : ∀ p ∈ rest, p.1 ≠ d1) :
   Ctr w mean mg mb 725 [.ref lx] 9 (lexN w.params sx sd lx ld d1 d2 k1 k2 k3 t1 t2 t3 kk vv wc buf pos state lineno tl (Str.ofString "") tt (deq1 st v) rest)
     (fun h₀ L _ h' v' => v' = v ∧ News h₀ L h' (lexN w.params sx sd lx ld d1 d2 k1 k2 k3 t1 t2 t3 kk vv wc buf pos state lineno tl (Str.ofString "") tt (deq0 (st + 1)) rest)) := by
  unfold Ctr
  k_fill
  intro dp un gd cn cs a ccd cl outer A₀ base h₀ L m s Q E B F X N T hk hdp hun hret
  refine wpAny_call ?_
  k_dflt (refine' code_def ?k1 ?k2 ?k3 ?k4 ?k5 ?kA ?kF ?kK ?k6 ?k7 ?k8 ?k9 ?kB ?_ ?c2 ?c3 ?c4 ?c5; (case kA => exact rfl); (case kF => exact rfl); (case kK => assumption); (case k1 => k_asm); (case k2 => k_asm); (case k3 => k_asm); (case k4 => k_asm); (case k5 => k_asm); (case k6 => k_is); (case k7 => k_is); (case k8 => ktr_room); (case k9 => exact kp_binds (binds := [(Str.ofString "self", .ref lx)]) (X.keeps F.keep) (fun S => by kernel_rfl)); (case c5 => decide); (case kB => exact locs rfl); (case c2 => exact rfl); (case c3 => exact rfl); (case c4 => exact rfl); k_whole; intro g' L' h' FG' F' N' B' X' T'; (try dsimp only); (try k_lift B'); (try k_fold))
  k_steps
  all_goals exact hret _ _ _ (by k_asm) ⟨rfl, by k_asm⟩
theorem Ctr.mono {w : World} {mean : ExcName → Option Value} {mg mb : Str → Option Value} {f : Addr} {args : List Value} {cost : Nat} {news : List (Addr × Obj)} {R R' : Heap → Addr → (Str → Option Value) → Heap → Value → Prop}
    (C : Ctr w mean mg mb f args cost news R) (h : ∀ h₀ L m h' v, R h₀ L m h' v → R' h₀ L m h' v) : Ctr w mean mg mb f args cost news R' := by
  intro dp un gd cn cs a ccd cl outer A₀ base h₀ L m s Q E B F X N T hk hdp hun hret
  exact C dp un gd cn cs a ccd cl outer A₀ base h₀ L m s Q E B F X N T hk hdp hun fun v h' tk' F' r => hret v h' tk' F' (h _ _ _ _ _ r)
theorem read_token_none (w : World) (mean : ExcName → Option Value) (mg mb : Str → Option Value) (rest : List (Addr × Obj)) (sx sd lx ld d1 d2 k1 k2 k3 t1 t2 t3 : Nat) (kk vv : Nat → Nat) (wc buf : Str) (pos : Int) (state : Value) (lineno : Int) (tl tt : Nat) (st : Int) (out : RT) (LN : Int)
   (h1 : sd < sx) (h2 : lx < sd) (h3 : ld < lx) (h4 : sx < d1) (h5 : d1 < d2) (hr1 : ∀ p ∈ rest, p.1 ≠ sd) (hr2 : ∀ p ∈ rest, p.1 ≠ ld) (hr3 : ∀ p ∈ rest, p.1 ≠ d1) (hln : buf.length ≤ 1000) (hwc : WcOk wc)
   (hpos : 0 ≤ pos) (hgood : ∀ c ∈ buf.cps.toList.drop pos.toNat, goodC c = true) (hm : RtMode (buf.cps.toList.drop pos.toNat) state lineno (Str.ofString "") out LN) (ho : out.tok = []) :
   Ctr w mean mg mb 732 [.ref lx] 8 (lexN w.params sx sd lx ld d1 d2 k1 k2 k3 t1 t2 t3 kk vv wc buf pos state lineno tl (Str.ofString "") tt (deq0 st) rest)
     (fun h₀ L _ h' v => ∃ t3' pos' state' tl' tt' pb', v = Value.none ∧ RtEnd buf st out pos' state' (tokS out.tok) pb' ∧
       News h₀ L h' (lexN w.params sx sd lx ld d1 d2 k1 k2 k3 t1 t2 t3' kk vv wc buf pos' state' LN tl' (Str.ofString "") tt' pb' rest)) := by
  refine (read_token_c w mean mg mb rest sx sd lx ld d1 d2 k1 k2 k3 t1 t2 t3 kk vv wc buf pos state lineno tl tt st out LN h1 h2 h3 h4 h5 hr1 hr2 hr3 hln hwc hpos hgood hm).mono ?_
  rintro _ _ _ _ _ ⟨t, t3', pos', state', tl', tt', pb', rfl, he, N⟩
  exact ⟨t3', pos', state', tl', tt', pb', by rw [rtVal, if_pos ho], he, N⟩
theorem read_token_some (w : World) (mean : ExcName → Option Value) (mg mb : Str → Option Value) (rest : List (Addr × Obj)) (sx sd lx ld d1 d2 k1 k2 k3 t1 t2 t3 : Nat) (kk vv : Nat → Nat) (wc buf : Str) (pos : Int) (state : Value) (lineno : Int) (tl tt : Nat) (st : Int) (out : RT) (LN : Int)
   (h1 : sd < sx) (h2 : lx < sd) (h3 : ld < lx) (h4 : sx < d1) (h5 : d1 < d2) (hr1 : ∀ p ∈ rest, p.1 ≠ sd) (hr2 : ∀ p ∈ rest, p.1 ≠ ld) (hr3 : ∀ p ∈ rest, p.1 ≠ d1) (hln : buf.length ≤ 1000) (hwc : WcOk wc)
   (hpos : 0 ≤ pos) (hgood : ∀ c ∈ buf.cps.toList.drop pos.toNat, goodC c = true) (hm : RtMode (buf.cps.toList.drop pos.toNat) state lineno (Str.ofString "") out LN) (ho : out.tok ≠ []) :
   Ctr w mean mg mb 732 [.ref lx] 8 (lexN w.params sx sd lx ld d1 d2 k1 k2 k3 t1 t2 t3 kk vv wc buf pos state lineno tl (Str.ofString "") tt (deq0 st) rest)
     (fun h₀ L _ h' v => ∃ t t3' pos' state' tl' tt' pb', v = Value.str (tokS out.tok) t ∧ RtEnd buf st out pos' state' (tokS out.tok) pb' ∧
       News h₀ L h' (lexN w.params sx sd lx ld d1 d2 k1 k2 k3 t1 t2 t3' kk vv wc buf pos' state' LN tl' (Str.ofString "") tt' pb' rest)) := by
  refine (read_token_c w mean mg mb rest sx sd lx ld d1 d2 k1 k2 k3 t1 t2 t3 kk vv wc buf pos state lineno tl tt st out LN h1 h2 h3 h4 h5 hr1 hr2 hr3 hln hwc hpos hgood hm).mono ?_
  rintro _ _ _ _ _ ⟨t, t3', pos', state', tl', tt', pb', rfl, he, N⟩
  exact ⟨t, t3', pos', state', tl', tt', pb', by rw [rtVal, if_neg ho], he, N⟩
theorem lines_F3_2 : True := by
  k_with "call ref" => (k_here; (try dsimp only); (with_reducible show wpAny _ _ (call (Value.ref 732) _ _) _ _ _); k_dflt (refine' ctr_use2 (by k_asm) (by k_asm) (by k_asm) (by first | k_asm | exact news_tail (by k_asm)) (by k_asm) (by first | exact rfl | assumption) (by ktr_room) (by ktr_units) (read_token_none _ _ _ _ _ _ _ _ _ _ _ _ _ _ _ _ _ _ _ _ _ _ _ _ _ _ _ _ _ (by assumption) (by assumption) (by assumption) (by assumption) (by assumption) (by assumption) (by assumption) (by assumption) (by assumption) (by assumption) (by assumption) (by assumption) (by assumption) (by assumption)) ?_); rintro _ _ _ _ ⟨_, _, _, _, _, _, rfl, _, _⟩; (try dsimp only); (try k_fold))
  k_with "call ref" => (k_here; (try dsimp only); (with_reducible show wpAny _ _ (call (Value.ref 732) _ _) _ _ _); k_dflt (refine' ctr_use2 (by k_asm) (by k_asm) (by k_asm) (by first | k_asm | exact news_tail (by k_asm)) (by k_asm) (by first | exact rfl | assumption) (by ktr_room) (by ktr_units) (read_token_some _ _ _ _ _ _ _ _ _ _ _ _ _ _ _ _ _ _ _ _ _ _ _ _ _ _ _ _ _ (by assumption) (by assumption) (by assumption) (by assumption) (by assumption) (by assumption) (by assumption) (by assumption) (by assumption) (by assumption) (by assumption) (by assumption) (by assumption) (by assumption)) ?_); rintro _ _ _ _ ⟨_, _, _, _, _, _, _, rfl, _, _⟩; (try dsimp only); (try k_fold))
  trivial
set_option maxRecDepth 100000 in
set_option maxHeartbeats 8000000 in
theorem get_token_none (w : World) (mean : ExcName → Option Value) (mg mb : Str → Option Value) (rest : List (Addr × Obj)) (sx sd lx ld d1 d2 k1 k2 k3 t1 t2 t3 : Nat) (kk vv : Nat → Nat) (wc buf : Str) (pos : Int) (state : Value) (lineno : Int) (tl tt : Nat) (st : Int) (out : RT) (LN : Int)
   (h1 : sd < sx) (h2 : lx < sd) (h3 : ld < lx) (h4 : sx < d1) (h5 : d1 < d2) (hr1 : ∀ p ∈ rest, p.1 ≠ sd) (hr2 : ∀ p ∈ rest, p.1 ≠ ld) (hr3 : ∀ p ∈ rest, p.1 ≠ d1) (hln : buf.length ≤ 1000) (hwc : WcOk wc)
   (hpos : 0 ≤ pos) (hgood : ∀ c ∈ buf.cps.toList.drop pos.toNat, goodC c = true) (hm : RtMode (buf.cps.toList.drop pos.toNat) state lineno (Str.ofString "") out LN) (ho : out.tok = []) :
   Ctr w mean mg mb 725 [.ref lx] 9 (lexN w.params sx sd lx ld d1 d2 k1 k2 k3 t1 t2 t3 kk vv wc buf pos state lineno tl (Str.ofString "") tt (deq0 st) rest)
     (fun h₀ L _ h' v => ∃ t3' pos' state' tl' tt' pb', v = Value.none ∧ RtEnd buf st out pos' state' (tokS out.tok) pb' ∧
       News h₀ L h' (lexN w.params sx sd lx ld d1 d2 k1 k2 k3 t1 t2 t3' kk vv wc buf pos' state' LN tl' (Str.ofString "") tt' pb' rest)) := by
  unfold Ctr
  k_fill
  intro dp un gd cn cs a ccd cl outer A₀ base h₀ L m s Q E B F X N T hk hdp hun hret
  refine wpAny_call ?_
  k_dflt (refine' code_def ?k1 ?k2 ?k3 ?k4 ?k5 ?kA ?kF ?kK ?k6 ?k7 ?k8 ?k9 ?kB ?_ ?c2 ?c3 ?c4 ?c5; (case kA => exact rfl); (case kF => exact rfl); (case kK => assumption); (case k1 => k_asm); (case k2 => k_asm); (case k3 => k_asm); (case k4 => k_asm); (case k5 => k_asm); (case k6 => k_is); (case k7 => k_is); (case k8 => ktr_room); (case k9 => exact kp_binds (binds := [(Str.ofString "self", .ref lx)]) (X.keeps F.keep) (fun S => by kernel_rfl)); (case c5 => decide); (case kB => exact locs rfl); (case c2 => exact rfl); (case c3 => exact rfl); (case c4 => exact rfl); k_whole; intro g' L' h' FG' F' N' B' X' T'; (try dsimp only); (try k_lift B'); (try k_fold))
  k_steps
  all_goals exact hret _ _ _ (by k_asm) ⟨_, _, _, _, _, _, rfl, by assumption, by k_asm⟩
set_option maxRecDepth 100000 in
set_option maxHeartbeats 8000000 in
theorem get_token_some (w : World) (mean : ExcName → Option Value) (mg mb : Str → Option Value) (rest : List (Addr × Obj)) (sx sd lx ld d1 d2 k1 k2 k3 t1 t2 t3 : Nat) (kk vv : Nat → Nat) (wc buf : Str) (pos : Int) (state : Value) (lineno : Int) (tl tt : Nat) (st : Int) (out : RT) (LN : Int)
   (h1 : sd < sx) (h2 : lx < sd) (h3 : ld < lx) (h4 : sx < d1) (h5 : d1 < d2) (hr1 : ∀ p ∈ rest, p.1 ≠ sd) (hr2 : ∀ p ∈ rest, p.1 ≠ ld) (hr3 : ∀ p ∈ rest, p.1 ≠ d1) (hln : buf.length ≤ 1000) (hwc : WcOk wc)
   (hpos : 0 ≤ pos) (hgood : ∀ c ∈ buf.cps.toList.drop pos.toNat, goodC c = true) (hm : RtMode (buf.cps.toList.drop pos.toNat) state lineno (Str.ofString "") out LN) (ho : out.tok ≠ []) :
   Ctr w mean mg mb 725 [.ref lx] 9 (lexN w.params sx sd lx ld d1 d2 k1 k2 k3 t1 t2 t3 kk vv wc buf pos state lineno tl (Str.ofString "") tt (deq0 st) rest)
     (fun h₀ L _ h' v => ∃ t t3' pos' state' tl' tt' pb', v = Value.str (tokS out.tok) t ∧ RtEnd buf st out pos' state' (tokS out.tok) pb' ∧
       News h₀ L h' (lexN w.params sx sd lx ld d1 d2 k1 k2 k3 t1 t2 t3' kk vv wc buf pos' state' LN tl' (Str.ofString "") tt' pb' rest)) := by
  unfold Ctr
  k_fill
  intro dp un gd cn cs a ccd cl outer A₀ base h₀ L m s Q E B F X N T hk hdp hun hret
  refine wpAny_call ?_
  k_dflt (refine' code_def ?k1 ?k2 ?k3 ?k4 ?k5 ?kA ?kF ?kK ?k6 ?k7 ?k8 ?k9 ?kB ?_ ?c2 ?c3 ?c4 ?c5; (case kA => exact rfl); (case kF => exact rfl); (case kK => assumption); (case k1 => k_asm); (case k2 => k_asm); (case k3 => k_asm); (case k4 => k_asm); (case k5 => k_asm); (case k6 => k_is); (case k7 => k_is); (case k8 => ktr_room); (case k9 => exact kp_binds (binds := [(Str.ofString "self", .ref lx)]) (X.keeps F.keep) (fun S => by kernel_rfl)); (case c5 => decide); (case kB => exact locs rfl); (case c2 => exact rfl); (case c3 => exact rfl); (case c4 => exact rfl); k_whole; intro g' L' h' FG' F' N' B' X' T'; (try dsimp only); (try k_lift B'); (try k_fold))
  k_steps
  all_goals exact hret _ _ _ (by k_asm) ⟨_, _, _, _, _, _, _, rfl, by assumption, by k_asm⟩

end Mine
end

-- G0
section
namespace Mine

theorem lines_G0_0 : True := by
  k_with_none
  trivial
open PySem.Builtin
set_option maxRecDepth 100000
def afterA {α : Type} (K : Frag) (S : Setting) (t : Sem α) : Addr → Sem α := match peekA K S t with
  | some (_, g) => g
  | none => fun _ => .unsupported ""
theorem wp_afterA {α : Type} {K : Frag} {M : Model} {A : Around} {E : Value → Shared → Prop} {Q : α → Shared → Prop} {s : Shared} {h₀ : Heap} {L : Addr} {m : Str → Option Value} {news : List (Addr × Obj)} {o : Obj}
    (F : Fr h₀ L s.heap m) (N : News h₀ L s.heap news) (X : K.In s.heap) (hf : o.isFreed = false) (t : Sem α) (e : (peekA K ⟨M.prog, M.w.params⟩ t).map (·.1) = some o)
    (h : ∀ h', Fr h₀ L h' m → News h₀ L h' ((s.heap.objs.size, o) :: news) → (∀ p ∈ news, p.1 < s.heap.objs.size) → wpAny M A (afterA K ⟨M.prog, M.w.params⟩ t s.heap.objs.size) Q E { s with heap := h' }) : wpAny M A t Q E s := by
  cases q : peekA K ⟨M.prog, M.w.params⟩ t with
  | none => rw [q] at e; cases e
  | some x =>
    obtain ⟨o', g⟩ := x
    rw [q] at e
    obtain rfl : o' = o := Option.some.inj e
    refine wp_of_peekA F N X hf t g q fun h' F' N' l => ?_
    have := h h' F' N' l
    unfold afterA at this
    rw [q] at this
    exact this
section
variable {w : World} {A : Around} {E : Value → Shared → Prop} {s : Shared} {h₀ : Heap} {L : Addr} {m : Str → Option Value} {news : List (Addr × Obj)}
theorem new_sio {Q : Value → Shared → Prop} (F : Fr h₀ L s.heap m) (N : News h₀ L s.heap news) (X₀ : (KF w.params).In h₀)
    (h : ∀ x dx h', Fr h₀ L h' m → News h₀ L h' ((x, instObj 629 dx) :: (dx, dictOf [] 0) :: news) → (∀ p ∈ news, p.1 < dx) → dx < x → Q (.ref x) { s with heap := h' }) :
    wpAny (model PySem.Challenge.rw_of0105_01.row.prog w) A (call (.builtin "object.__new__") [.ref 629]) Q E s := by
  have X := X₀.keeps F.keep
  refine wpAny_call (codeAny_call_builtin_code (Code.quiet_builtin _ PySem.F.objNew.quiet) ?_)
  refine (Looks.of_peek (t := checkBuiltinCall "object.__new__" ⟨[.ref 629], []⟩) (r := ()) X (by kernel_rfl)).here ?_
  refine codeAny_builtin PySem.F.objNew.entry ?_
  refine wp_afterA (o := dictOf [] 0) F N X rfl _ (by kernel_rfl) fun h' F' N' l => ?_
  refine wp_afterA (s := { s with heap := h' }) (o := instObj 629 s.heap.objs.size) F' N' (X₀.keeps F'.keep) rfl _ (by kernel_rfl) fun h'' F'' N'' l' => ?_
  refine (Looks.of_peek (K := KF w.params) (r := Fin.done (.ret (.ref h'.objs.size))) (X₀.keeps F''.keep) (by kernel_rfl)).here (s := { s with heap := h'' }) ?_
  exact h _ _ _ F'' N'' l (l' _ (.head _))
end

end Mine
end

-- G1
section
namespace Mine

theorem lines_G1_0 : True := by
  k_with_none
  trivial
open PySem.Builtin
set_option maxRecDepth 100000
theorem slot_deque_init : Slot "collections.deque" "__init__" "collections.deque.__init__" :=
  .of (owner := "collections.deque") (n := "__init__") (by rw [typeLookup_type, builtinLookup_eq_fast]; kernel_rfl) (by decide +kernel) (by decide +kernel) (by decide +kernel)
    (by first | exact .inl (by decide +kernel) | exact .inr (by decide +kernel)) (by rw [isSubtype_type]; kernel_rfl)
theorem mro_deque : mroOf (.type "collections.deque") = pure [.type "collections.deque", .type "object"] := by rw [mroOf_type]; kernel_rfl
theorem lookup_deque_new : typeLookup (.type "collections.deque") "__new__" = pure (some (.builtin "collections.deque.__new__")) := by rw [typeLookup_type, builtinLookup_eq_fast]; kernel_rfl
theorem called_deque : TypeCalled "collections.deque" "collections.deque.__new__" "collections.deque.__init__" :=
  ⟨by decide +kernel, by decide +kernel, ⟨_, _, mro_deque⟩, madeBy_type mro_deque lookup_deque_new (by decide +kernel), by decide +kernel, by rw [isSubtype_type]; kernel_rfl, slot_deque_init⟩
theorem typeCall_deque_0 : checkTypeCall "collections.deque" ⟨[], []⟩ = pure () := by kernel_rfl
theorem newCall_deque_0 : checkBuiltinCall "collections.deque.__new__" ⟨[.type "collections.deque"], []⟩ = pure () := by kernel_rfl
theorem entry_deque_new : entryFor table "collections.deque.__new__" = some Builtin.«collections.deque.__new__» := entryFor_of_tree (by kernel_rfl)
theorem entry_deque_init : entryFor table "collections.deque.__init__" = some Builtin.«collections.deque.__init__» := entryFor_of_tree (by kernel_rfl)
theorem args_deque_init (a : Value) : argsOk "collections.deque.__init__" ⟨[a], []⟩ := by unfold argsOk; kernel_rfl
theorem deque_new_tree : Builtin.«collections.deque.__new__» ⟨[.type "collections.deque"], []⟩ = (alloc (deq0 0) >>= fun a => pure (.done (.ret (.ref a)))) := by kernel_rfl
theorem deque_new_meets : Meets (Builtin.«collections.deque.__new__» ⟨[.type "collections.deque"], []⟩) (fun _ R s => R (.ok (.ret (.ref s.heap.objs.size))) { s with heap := s.heap.push (deq0 0) }) := by
  refine Meets.of_wp fun prog w A R s hs => ?_
  rw [deque_new_tree]
  exact wpAny_bind (wpAny_alloc (wpAny_pure ⟨_, rfl, hs⟩))
theorem deque_init_tree (d : Addr) : Builtin.«collections.deque.__init__» ⟨[.ref d], []⟩ = (setField (.ref d) 0 .none >>= fun _ => Deque.clear (.ref d) >>= fun _ => ret .none) := by kernel_rfl
theorem deque_init_meets (d : Addr) : Meets (Builtin.«collections.deque.__init__» ⟨[.ref d], []⟩) (fun _ R s => s.heap.get? d = some (deq0 0) ∧ ∀ h', Heap.SameBut d s.heap h' → h'.get? d = some (deq0 0) → R (.ok (.ret .none)) { s with heap := h' }) := by
  refine Meets.of_wp fun prog w A R s hs => ?_
  obtain ⟨ho, hq⟩ := hs
  rw [deque_init_tree]
  have hg : (s.heap.update d (Obj.mapFields (·.setIfInBounds 0 .none))).get? d = some (deq0 0) := Heap.get?_update_self (fun o => Obj.mapFields (·.setIfInBounds 0 .none) o) ho rfl
  refine wpAny_bind ?_
  show wpAny _ _ (updateField d 0 .none) _ _ _
  unfold updateField
  refine wpAny_bind (wpAny_load ho ?_)
  show wpAny _ _ (update d (Obj.mapFields (·.setIfInBounds 0 .none))) _ _ _
  refine wpAny_update ho (wpAny_bind ?_)
  unfold Deque.clear Deque.items
  refine wpAny_bind (wpAny_bind (wpAny_fieldsOf hg rfl (wpAny_pure ?_)))
  exact wpAny_pure (wpAny_pure ⟨_, rfl, hq _ (Heap.SameBut.update ..) hg⟩)
section
variable {prog : Program} {w : World} {A : Around} {E : Value → Shared → Prop} {s : Shared} {h₀ : Heap} {L : Addr} {m : Str → Option Value} {news : List (Addr × Obj)}
theorem call_deque {Q : Value → Shared → Prop} (F : Fr h₀ L s.heap m) (N : News h₀ L s.heap news)
    (h : ∀ d h', Fr h₀ L h' m → News h₀ L h' ((d, deq0 0) :: news) → (∀ p ∈ news, p.1 < d) → Q (.ref d) { s with heap := h' }) : wpAny (model prog w) A (call (.type "collections.deque") []) Q E s := by
  have F1 := F.push (deq0 0)
  have N1 := N.push F (deq0 0)
  have l : ∀ p ∈ news, p.1 < s.heap.objs.size := fun p hp => Heap.lt_size (N p hp).1
  refine callType_meets (Q₁ := fun obj s₁ => obj = .ref s.heap.objs.size ∧ s₁ = { s with heap := s.heap.push (deq0 0) }) called_deque typeCall_deque_0 newCall_deque_0 entry_deque_new entry_deque_init deque_new_meets ⟨rfl, rfl⟩ ?_
  rintro obj s₁ ⟨rfl, rfl⟩
  have hg := (N1 _ (.head _)).1
  refine ⟨⟨_, hg, rfl⟩, args_deque_init _, _, deque_init_meets _, hg, fun h' hs ho => ⟨rfl, ?_⟩⟩
  exact h _ h' (F1.change hs (N1 _ (.head _)).2.1 (N1 _ (.head _)).2.2) (news_set (pre := []) N1 (fun _ hp => nomatch hp) (fun p hp => Nat.ne_of_lt (l p hp)) hs ho) l
end

end Mine
end

-- G2
section
namespace Mine

theorem lines_G2_0 : True := by
  k_with_none
  trivial
theorem news_drop34 {h₀ h : Heap} {L : Addr} {a b c d : Addr × Obj} {news : List (Addr × Obj)} (N : News h₀ L h (a :: b :: c :: d :: news)) : News h₀ L h (a :: b :: news) := fun q hq => N q (by
  rcases List.mem_cons.mp hq with rfl | hq
  · exact .head _
  · rcases List.mem_cons.mp hq with rfl | hq
    · exact .tail _ (.head _)
    · exact .tail _ (.tail _ (.tail _ (.tail _ hq))))
set_option maxRecDepth 100000 in
set_option maxHeartbeats 8000000 in
theorem ionew_c (w : World) (mean : ExcName → Option Value) (mg mb : Str → Option Value) (news : List (Addr × Obj)) (buf : Str) (t : Nat) :
   Ctr w mean mg mb 122 [.ref 629, .str buf t] 1 news
     (fun h₀ L _ h' v => ∃ x dx, v = .ref x ∧ News h₀ L h' ((x, instObj 629 dx) :: (dx, dictOf [] 0) :: news) ∧ (∀ p ∈ news, p.1 < dx) ∧ dx < x) := by
  unfold Ctr
  k_fill
  intro dp un gd cn cs a ccd cl outer A₀ base h₀ L m s Q E B F X N T hk hdp hun hret
  refine wpAny_call ?_
  k_dflt (refine' kp_both ?k1 ?k2 ?k3 ?k4 ?k5 ?kA ?kF ?kK ?k6 ?k7 ?k8 ?kV ?kX ?kQ ?kM ?kN ?kD ?kR ?kP ?kS ?kT ?kB ?_ ?c2 ?c3 ?c4 ?c5; (case kA => exact rfl); (case kF => exact rfl); (case kK => assumption); (case k1 => k_asm); (case k2 => k_asm); (case k3 => k_asm); (case k4 => k_asm); (case k5 => k_asm); (case k6 => k_is); (case k7 => k_is); (case k8 => ktr_room); (case kV => kp_lit); (case kX => kp_lit); (case kQ => exact rfl); (case kM => exact rfl); (case kN => exact rfl); (case kD => kp_flats); (case kR => exact rfl); (case kP => exact rfl); (case kS => exact fun _ => rfl); (case kT => exact fun _ _ => rfl); (case kB => exact fun _ _ => locs rfl); (case c5 => decide); (case c2 => exact rfl); (case c3 => exact rfl); (case c4 => exact rfl); k_whole; intro C' D' o' g' L' h' tk' l1 l2 lo' hs' fs' FG' F' N' B' X' T'; (try dsimp only); (try k_lift B'); (try k_fold))
  k_steps
  k_dflt (refine' new_sio ?k1 ?k2 ?k3 ?_; (case k1 => k_asm); (case k2 => k_asm); (case k3 => k_asm))
  intro x9 d9 h9 F9 N9 l9 l8
  k_steps
  exact hret _ _ _ (by k_asm) ⟨_, _, rfl, news_drop34 (by k_asm), fun p hp => l9 p (.tail _ (.tail _ hp)), l8⟩

theorem looks_sio_call {w : World} {h : Heap} (X : (KF w.params).In h) : Looks (model PySem.Challenge.rw_of0105_01.row.prog w) h (specialOf (.ref 629) "__call__") (some (.builtin "type.__call__")) := Looks.of_peek X (by kernel_rfl)
theorem looks_sio_typ {w : World} {h : Heap} (X : (KF w.params).In h) : Looks (model PySem.Challenge.rw_of0105_01.row.prog w) h (isInstance (.ref 629) (.type "type")) true := Looks.of_peek X (by kernel_rfl)
theorem looks_sio_mro {w : World} {h : Heap} (X : (KF w.params).In h) : Looks (model PySem.Challenge.rw_of0105_01.row.prog w) h (mroOf (.ref 629)) [.ref 629, .ref 152, .ref 125, .type "object"] := Looks.of_peek X (by kernel_rfl)
theorem looks_sio_made {w : World} {h : Heap} (X : (KF w.params).In h) : Looks (model PySem.Challenge.rw_of0105_01.row.prog w) h (Bind.madeBy (.ref 629)) none := Looks.of_peek X (by kernel_rfl)
theorem looks_sio_self {w : World} {h : Heap} (X : (KF w.params).In h) : Looks (model PySem.Challenge.rw_of0105_01.row.prog w) h (isSubtype (.ref 629) (.ref 629)) true := Looks.of_peek X (by kernel_rfl)
theorem looks_sio_init {w : World} {h : Heap} (X : (KF w.params).In h) : Looks (model PySem.Challenge.rw_of0105_01.row.prog w) h (typeLookup (.ref 629) "__init__") (some (.ref 399)) := Looks.of_peek X (by kernel_rfl)
theorem looks_sio_bind {w : World} {h : Heap} (X : (KF w.params).In h) (v : Value) : Looks (model PySem.Challenge.rw_of0105_01.row.prog w) h (bindSpecial (.ref 399) v) (.ref 399, [v]) := Looks.of_peek X (by kernel_rfl)

set_option maxRecDepth 100000 in
set_option maxHeartbeats 8000000 in
theorem make_sio (w : World) (mean : ExcName → Option Value) (mg mb : Str → Option Value) (news : List (Addr × Obj)) (buf : Str) (t : Nat)
   {dp un : Nat} {gd : Option (List Code)} {cn : Str} {cs : Scope} {a : Addr} {ccd : Value} {cl : List (Str × Addr)} {outer : List Env} {A₀ : Around} {base h₀ : Heap} {L : Addr} {m : Str → Option Value} {s : Shared} {Q E : Value → Shared → Prop}
   (B : Below A₀ base outer h₀) (F : Fr h₀ L s.heap m) (X : (KF w.params).In h₀) (N : News h₀ L s.heap news) (T : Top QV LO mean mg mb h₀) (hk : cs.kind = .function)
   (hdp : dp + 3 < recursionLimit) (hun : un + 32 < cLine)
   (h : ∀ x dx h' tk', Fr h₀ L h' m → News h₀ L h' ((x, instObj 629 dx) :: (dx, dictOf [] 0) :: news) → (∀ p ∈ news, p.1 < dx) → dx < x →
      codeAny (model PySem.Challenge.rw_of0105_01.row.prog w) ((ktrTop dp un gd cn cs L a ccd cl outer).under (.builtin "type.__call__" ⟨[.ref 629, .str buf t], []⟩)) (.call (.ref 399) ⟨[.ref x, .str buf t], []⟩)
        (InitBack x fun r s' => match r with | .ok (.ret v) => Q v s' | .ok _ => False | .error e => E e s') { s with heap := h', toks := tk' }) :
    wpAny (model PySem.Challenge.rw_of0105_01.row.prog w) (ktrTop dp un gd cn cs L a ccd cl outer) (call (.ref 629) [.str buf t]) Q E s := by
  have KF : KF w.params = KF w.params := rfl
  revert KF
  k_fill
  intro _
  have XX := X.keeps F.keep
  have hC : ∃ o, s.heap.get? 629 = some o ∧ (∃ cd, o.data = .cls cd) := ⟨_, XX 629 _ (by k_is), _, rfl⟩
  obtain ⟨⟨oc, od, dt, osl⟩, hC, cd, rfl⟩ := hC
  refine wpAny_call (codeAny_of_tree ?_)
  show wpAny _ _ (callAny (.ref 629) _) _ _ _
  refine nd_load hC ?_
  show wpAny _ _ (callAny.viaDunder (.ref 629) _) _ _ _
  unfold callAny.viaDunder
  refine wpAny_bind ((looks_sio_call XX).at ?_)
  dsimp only
  rw [tc_bind]
  refine wpAny_bind (wpAny_pure (wpAny_bind (wpAny_pure ?_)))
  refine wpAny_pure (a := Fin.again (.call (.builtin "type.__call__") ⟨[.ref 629, .str buf t], []⟩)) (And.intro rfl ?_)
  refine codeAny_call_builtin_at (Code.quiet_builtin _ (by decide +kernel)) entry_typeCall (check_slot tc_kind tc_split (looks_sio_typ XX) (tc_args _ _ _) ?_)
  unfold Builtin.«type.__call__»
  have hm := looks_sio_mro XX
  have hmd := looks_sio_made XX
  repeat ((fail_if_success (with_reducible show wpAny _ _ (getAttr _ _ _) _ _ _)); (first | with_reducible refine wpAny_call ?_ | lk))
  k_dflt (refine' cls_sm ?k1 ?k2 ?k3 ?k4 ?k5 ?k6 ?k7 ?_; (case k1 => k_asm); (case k2 => k_asm); (case k3 => k_is); (case k4 => k_is); (case k5 => k_is); (case k6 => k_is); (case k7 => k_handed))
  refine wpAny_bind (wpAny_holding ?_)
  refine ctr_use (ionew_c w mean mg mb news buf t) B F X N T hk (by have e : (Code.builtin "type.__call__" { pos := [Value.ref 629, Value.str buf t] }).weight = 1 := rfl; rw [e]; show dp + 1 + 1 < _; omega) (by have e : (Code.builtin "type.__call__" { pos := [Value.ref 629, Value.str buf t] }).cUnits = 1 := rfl; rw [e]; show un + 1 + 8 * 1 < _; omega) ?_
  rintro _ h' tk' F' ⟨x, dx, rfl, N', l1, l2⟩
  have XX' := X.keeps F'.keep
  have hx := (N' _ (.head _)).1
  have ty : Looks (model PySem.Challenge.rw_of0105_01.row.prog w) h' (typeOf (.ref x)) (.ref 629) := (Looks.ld hx).andThen .now
  have s1 := looks_sio_self XX'
  have i1 := looks_sio_init XX'
  have b1 := looks_sio_bind XX' (.ref x)
  unfold isInstance callSpecial? specialOf
  dsimp only
  repeat (first | with_reducible refine wpAny_call ?_ | lk)
  refine codeAny_mono (h x dx h' tk' F' N' l1 l2) fun r s' z => ?_
  rcases r with e | (v | _ | _ | _) <;> first | exact z | exact z.elim | skip
  obtain ⟨rfl, z⟩ := z
  exact wpAny_pure (wpAny_pure z)

end Mine
end

-- G3
section
namespace Mine

theorem lines_G3_0 : True := by
  k_with_none
  trivial
set_option maxRecDepth 100000 in
set_option maxHeartbeats 8000000 in
theorem translated_c (w : World) (mean : ExcName → Option Value) (mg mb : Str → Option Value) (rest : List (Addr × Obj)) (x dx k1 k2 k3 t1 t2 t3 : Nat) (buf y : Str) (pos : Int) (t : Nat) :
   Ctr w mean mg mb 406 [.ref x, .str y t] 1 (sioN w.params x dx k1 k2 k3 t1 t2 t3 buf pos rest)
     (fun h₀ L _ h' v => v = .str y t ∧ News h₀ L h' (sioN w.params x dx k1 k2 k3 t1 t2 t3 buf pos rest)) := by
  unfold Ctr
  k_fill
  intro dp un gd cn cs a ccd cl outer A₀ base h₀ L m s Q E B F X N T hk hdp hun hret
  refine wpAny_call ?_
  k_dflt (refine' code_def ?k1 ?k2 ?k3 ?k4 ?k5 ?kA ?kF ?kK ?k6 ?k7 ?k8 ?k9 ?kB ?_ ?c2 ?c3 ?c4 ?c5; (case kA => exact rfl); (case kF => exact rfl); (case kK => assumption); (case k1 => k_asm); (case k2 => k_asm); (case k3 => k_asm); (case k4 => k_asm); (case k5 => k_asm); (case k6 => k_is); (case k7 => k_is); (case k8 => ktr_room); (case k9 => exact kp_binds (binds := [(Str.ofString "self", .ref x), (Str.ofString "s", .str y t)]) (X.keeps F.keep) (fun S => by kernel_rfl)); (case c5 => decide); (case kB => exact locs rfl); (case c2 => exact rfl); (case c3 => exact rfl); (case c4 => exact rfl); k_whole; intro g' L' h' FG' F' N' B' X' T'; (try dsimp only); (try k_lift B'); (try k_fold))
  k_steps
  all_goals exact hret _ _ _ (by k_asm) ⟨rfl, by k_asm⟩
theorem lines_G3_1 : True := by
  k_with "call ref" => (k_here; (try dsimp only); (with_reducible show wpAny _ _ (call (Value.ref 406) _ _) _ _ _); k_dflt (refine' ctr_use2 (by k_asm) (by k_asm) (by k_asm) (by first | k_asm | exact news_tail (by k_asm)) (by k_asm) (by first | exact rfl | assumption) (by ktr_room) (by ktr_units) (translated_c _ _ _ _ _ _ _ _ _ _ _ _ _ _ _ _ _) ?_); rintro _ _ _ _ ⟨rfl, _⟩; (try dsimp only); (try k_fold))
  trivial
set_option maxRecDepth 100000 in
set_option maxHeartbeats 8000000 in
theorem sio_c (w : World) (mean : ExcName → Option Value) (mg mb : Str → Option Value) (news : List (Addr × Obj)) (buf : Str) (t : Nat) :
   Ctr w mean mg mb 629 [.str buf t] 4 news
     (fun h₀ L _ h' v => ∃ x dx k1 k2 k3 t1 t2 t3, v = .ref x ∧ News h₀ L h' (sioN w.params x dx k1 k2 k3 t1 t2 t3 buf 0 news) ∧ (∀ p ∈ news, p.1 < dx) ∧ dx < x) := by
  unfold Ctr
  k_fill
  intro dp un gd cn cs a ccd cl outer A₀ base h₀ L m s Q E B F X N T hk hdp hun hret
  refine make_sio w mean mg mb news buf t B F X N T hk (by omega) (by omega) ?_
  intro x dx h₁ tk₁ F₁ N₁ l1 l2
  have hnd : ∀ p ∈ news, p.1 ≠ dx := fun p hp => Nat.ne_of_lt (l1 p hp)
  have l2' : @LT.lt Nat instLTNat dx x := l2
  have ew : (Code.builtin "type.__call__" { pos := [Value.ref 629, Value.str buf t] }).weight = 1 := rfl
  have eu : ((ktrTop dp un gd cn cs L a ccd cl outer).under (Code.builtin "type.__call__" { pos := [Value.ref 629, Value.str buf t] })).units = un + 1 := rfl
  clear F N
  replace F := F₁
  clear F₁
  k_dflt (refine' code_def ?k1 ?k2 ?k3 ?k4 ?k5 ?kA ?kF ?kK ?k6 ?k7 ?k8 ?k9 ?kB ?_ ?c2 ?c3 ?c4 ?c5; (case kA => exact rfl); (case kF => exact rfl); (case kK => assumption); (case k1 => k_asm); (case k2 => k_asm); (case k3 => k_asm); (case k4 => k_asm); (case k5 => k_asm); (case k6 => k_is); (case k7 => k_is); (case k8 => ktr_room); (case k9 => exact kp_binds (binds := [(Str.ofString "self", .ref x), (Str.ofString "initial_value", .str buf t), (Str.ofString "newline", .str (Str.ofString "\n") 715)]) (X.keeps F.keep) (fun S => by kernel_rfl)); (case c5 => decide); (case kB => exact locs rfl); (case c2 => exact rfl); (case c3 => exact rfl); (case c4 => exact rfl); k_whole; intro g' L' h' FG' F' N' B' X' T'; (try dsimp only); (try k_lift B'); (try k_fold))
  k_steps
  all_goals exact hret _ _ _ (by k_asm) ⟨_, _, _, _, _, _, _, _, rfl, by k_asm, l1, l2⟩

end Mine
end

-- G4
section
namespace Mine

theorem lines_G4_0 : True := by
  k_with_none
  trivial
theorem lines_G4_1 : True := by
  k_with "call ref" => (k_here; (try dsimp only); (with_reducible show wpAny _ _ (call (Value.ref 629) _ _) _ _ _); k_dflt (refine' ctr_use2 (by k_asm) (by k_asm) (by k_asm) (by first | k_asm | exact news_tail (by k_asm)) (by k_asm) (by first | exact rfl | assumption) (by ktr_room) (by ktr_units) (sio_c _ _ _ _ _ _ _) ?_); rintro _ _ _ _ ⟨_, _, _, _, _, _, _, _, rfl, _, l9, m9⟩; (have l8 := fun p hp => Nat.ne_of_lt (l9 p hp)); (try k_lt l9); (try k_lt2 m9); (try dsimp only); (try k_fold))
  k_with "call type:collections.deque" => (k_here; k_dflt (refine' call_deque (by k_asm) (by k_asm) ?_; k_whole); intro _ _ _ _ l9; (try k_lt l9); (try k_sweep))
  trivial
theorem news_perm6 {h₀ h : Heap} {L : Addr} {a b c d e f : Addr × Obj} {r : List (Addr × Obj)} (N : News h₀ L h (f :: e :: a :: b :: c :: d :: r)) : News h₀ L h (a :: b :: c :: d :: e :: f :: r) := fun q hq => N q (by
  simp only [List.mem_cons] at hq ⊢
  rcases hq with h | h | h | h | h | h | h <;> simp [h])
def wcCheck (wc : Str) : Bool := (List.range 123).all (fun c => !isWordC c || wc.cps.toList.contains c) && [38, 59, 60, 62].all (fun c => !wc.cps.toList.contains c)
theorem wcOk_of {wc : Str} (h : wcCheck wc = true) : WcOk wc := by
  simp only [wcCheck, Bool.and_eq_true, List.all_eq_true] at h
  refine ⟨fun c hc => ?_, fun c hc hm => ?_⟩
  · have hl : c < 123 := by
      simp [isWordC] at hc
      omega
    have := h.1 c (List.mem_range.mpr hl)
    rw [hc] at this
    simpa using this
  · have hl : c ∈ [38, 59, 60, 62] := by
      simp [isPunC] at hc ⊢
      omega
    have := h.2 c hl
    simp at this
    exact this (by simpa using hm)
set_option maxRecDepth 100000 in
set_option maxHeartbeats 8000000 in
theorem lexer_c (w : World) (mean : ExcName → Option Value) (mg mb : Str → Option Value) (news : List (Addr × Obj)) (buf : Str) (t : Nat)
   {dp un : Nat} {gd : Option (List Code)} {cn : Str} {cs : Scope} {a : Addr} {ccd : Value} {cl : List (Str × Addr)} {outer : List Env} {A₀ : Around} {base h₀ : Heap} {L : Addr} {m : Str → Option Value} {s : Shared} {Q E : Value → Shared → Prop}
   (B : Below A₀ base outer h₀) (F : Fr h₀ L s.heap m) (X : (KF w.params).In h₀) (N : News h₀ L s.heap news) (T : Top QV LO mean mg mb h₀) (hk : cs.kind = .function)
   (hdp : dp + 8 < recursionLimit) (hun : un + 80 < cLine)
   (hret : ∀ sx sd lx ld d1 d2 k1 k2 k3 t1 t2 t3 kk vv wc tst tl tt h' tk', WcOk wc → Fr h₀ L h' m → News h₀ L h' (lexN w.params sx sd lx ld d1 d2 k1 k2 k3 t1 t2 t3 kk vv wc buf 0 (.str (Str.ofString " ") tst) 1 tl (Str.ofString "") tt (deq0 0) news) →
      @LT.lt Nat instLTNat sd sx → @LT.lt Nat instLTNat lx sd → @LT.lt Nat instLTNat ld lx → @LT.lt Nat instLTNat sx d1 → @LT.lt Nat instLTNat d1 d2 → (∀ p ∈ news, @LT.lt Nat instLTNat p.1 ld) → Q (.ref lx) { s with heap := h', toks := tk' }) :
    wpAny (model PySem.Challenge.rw_of0105_01.row.prog w) (ktrTop dp un gd cn cs L a ccd cl outer) (call (.ref 764) [.str buf t] [(Str.ofString "posix", .bool true)]) Q E s := by
  have KF : KF w.params = KF w.params := rfl
  revert KF
  k_fill
  intro _
  k_dflt (refine' call_cls ?k1 ?k2 ?k3 ?k4 ?k5 ?k6 ?_; (case k1 => k_asm); (case k2 => k_asm); (case k3 => k_asm); (case k4 => k_is); (case k5 => k_is); (case k6 => k_is))
  intro lx ld h₁ F₁ N₁ l1 l2
  have hnd : ∀ p ∈ news, p.1 ≠ ld := fun p hp => Nat.ne_of_lt (l1 p hp)
  have l2' : @LT.lt Nat instLTNat ld lx := l2
  have ew : (Code.builtin "type.__call__" { pos := [Value.ref 764, Value.str buf t], kw := [(Str.ofString "posix", .bool true)] }).weight = 1 := rfl
  have eu : ((ktrTop dp un gd cn cs L a ccd cl outer).under (Code.builtin "type.__call__" { pos := [Value.ref 764, Value.str buf t], kw := [(Str.ofString "posix", .bool true)] })).units = un + 1 := rfl
  clear F N
  replace F := F₁
  clear F₁
  k_dflt (refine' code_def ?k1 ?k2 ?k3 ?k4 ?k5 ?kA ?kF ?kK ?k6 ?k7 ?k8 ?k9 ?kB ?_ ?c2 ?c3 ?c4 ?c5; (case kA => exact rfl); (case kF => exact rfl); (case kK => assumption); (case k1 => k_asm); (case k2 => k_asm); (case k3 => k_asm); (case k4 => k_asm); (case k5 => k_asm); (case k6 => k_is); (case k7 => k_is); (case k8 => ktr_room); (case k9 => exact kp_binds (binds := [(Str.ofString "self", .ref lx), (Str.ofString "instream", .str buf t), (Str.ofString "infile", .none), (Str.ofString "posix", .bool true), (Str.ofString "punctuation_chars", .bool false)]) (X.keeps F.keep) (fun S => by kernel_rfl)); (case c5 => decide); (case kB => exact locs rfl); (case c2 => exact rfl); (case c3 => exact rfl); (case c4 => exact rfl); k_whole; intro g' L' h' FG' F' N' B' X' T'; (try dsimp only); (try k_lift B'); (try k_fold))
  k_steps
  rename News _ _ _ _ => NN
  rename Fr _ _ _ _ => FF
  refine hret _ _ _ _ _ _ _ _ _ _ _ _ (fun i => ([_, _, _, _, _, _, _, _, _, _, _, _, _, _, _, _, _, _, _] : List Nat).getD i 0) (fun i => ([0, 0, 0, 0, _, _, _, 0, _, _, _, 0, 0, 0, _, 0, 0, 0, _] : List Nat).getD i 0) _ _ _ _ _ _ ?wc FF (news_perm6 NN) ?l1 ?l2 ?l3 ?l4 ?l5 ?l6
  case wc => exact wcOk_of (by decide +kernel)
  case l6 => exact l1
  all_goals omega

end Mine
end

-- P0
section
namespace Mine
/-- the tokens of a text and its lines' ends: none: inside a remark; some cur: a word under way -/
def lexT : Option (List Nat) → List Nat → List (List Nat) × Nat
  | none, [] => ([], 0)
  | some cur, [] => (if cur = [] then [] else [cur], 0)
  | none, c :: r => if c = 10 then lexT (some []) r else lexT none r
  | some cur, c :: r =>
    if c = 10 then ((if cur = [] then [] else [cur]) ++ (lexT (some []) r).1, (lexT (some []) r).2 + 1)
    else if isWsC c then ((if cur = [] then [] else [cur]) ++ (lexT (some []) r).1, (lexT (some []) r).2)
    else if c = 35 then ((if cur = [] then [] else [cur]) ++ (lexT none r).1, (lexT none r).2 + 1)
    else if isWordC c then lexT (some (cur ++ [c])) r
    else ((if cur = [] then [] else [cur]) ++ [c] :: (lexT (some []) r).1, (lexT (some []) r).2)
theorem lexT_skip : ∀ r, lexT none r = lexT (some []) (afterLine r)
  | [] => rfl
  | c :: r => by
    rw [lexT, afterLine]
    split
    · rfl
    · exact lexT_skip r
def oneT (l : List Nat) : List (List Nat) := if l = [] then [] else [l]
def pushT (p : Option Nat) : List (List Nat) := match p with | none => [] | some c => [[c]]
theorem lexT_rdA : ∀ (r tok : List Nat), tok ≠ [] → lexT (some tok) r = (oneT (rdA tok r).tok ++ pushT (rdA tok r).push ++ (lexT (some []) (rdA tok r).rest).1, (rdA tok r).lines + (lexT (some []) (rdA tok r).rest).2)
  | [], tok, h => by simp [lexT, rdA, oneT, pushT, h]
  | c :: r, tok, h => by
    rw [lexT, rdA]
    repeat' split
    all_goals first
      | (simp only [oneT, pushT, if_neg h, List.append_nil]; simp [Nat.add_comm]; done)
      | (rw [lexT_skip]; simp [oneT, pushT, h, Nat.add_comm]; done)
      | exact lexT_rdA r _ (by simp)
      | (simp [oneT, pushT, h]; done)
theorem lexT_rdS : ∀ (r : List Nat), lexT (some []) r = (oneT (rdS false r).tok ++ pushT (rdS false r).push ++ (lexT (some []) (rdS false r).rest).1, (rdS false r).lines + (lexT (some []) (rdS false r).rest).2) ∧
    lexT none r = (oneT (rdS true r).tok ++ pushT (rdS true r).push ++ (lexT (some []) (rdS true r).rest).1, (rdS true r).lines + (lexT (some []) (rdS true r).rest).2)
  | [] => by simp [lexT, rdS, oneT, pushT]
  | c :: r => by
    obtain ⟨h1, h2⟩ := lexT_rdS r
    constructor
    · rw [lexT, rdS]
      split
      · rw [h1]; simp [RT.more]; omega
      · split
        · rw [h1]; simp
        · split
          · rw [h2]; simp [RT.more]; omega
          · split
            · rw [List.nil_append, lexT_rdA r [c] (by simp)]
            · simp [oneT, pushT]
    · rw [lexT, rdS]
      split
      · exact h1
      · exact h2
/-- what ended means -/
theorem rdA_ended : ∀ (r tok : List Nat), (rdA tok r).ended = true → (rdA tok r).rest = [] ∧ (rdA tok r).push = none
  | [], tok => fun _ => ⟨rfl, rfl⟩
  | c :: r, tok => by
    rw [rdA]
    repeat' split
    all_goals first | (intro h; cases h; done) | exact rdA_ended r _
theorem rdS_ended : ∀ (b : Bool) (r : List Nat), (rdS b r).ended = true → (rdS b r).rest = [] ∧ (rdS b r).push = none
  | _, [] => fun _ => ⟨rfl, rfl⟩
  | true, c :: r => by
    rw [rdS]
    split
    · exact rdS_ended _ r
    · exact rdS_ended _ r
  | false, c :: r => by
    rw [rdS]
    repeat' split
    all_goals first | (intro h; cases h; done) | exact rdS_ended _ r | exact rdA_ended r _
theorem rdS_nil : ∀ (b : Bool) (r : List Nat), (rdS b r).tok = [] → (rdS b r).ended = true
  | _, [] => fun _ => rfl
  | true, c :: r => by
    rw [rdS]
    split
    · exact rdS_nil _ r
    · exact rdS_nil _ r
  | false, c :: r => by
    rw [rdS]
    repeat' split
    all_goals first | exact rdS_nil _ r | (intro h; exact absurd h (rdA_ne r _ (by simp))) | (intro h; cases h)
theorem rdA_good : ∀ (r tok : List Nat), (∀ c ∈ r, goodC c = true) → ∀ c ∈ (rdA tok r).rest, goodC c = true
  | [], tok, h => h
  | c :: r, tok, h => by
    have hr : ∀ x ∈ r, goodC x = true := fun x hx => h x (.tail _ hx)
    rw [rdA]
    repeat' split
    all_goals first | exact hr | exact afterLine_good hr | exact rdA_good r _ hr
theorem rdS_good : ∀ (b : Bool) (r : List Nat), (∀ c ∈ r, goodC c = true) → ∀ c ∈ (rdS b r).rest, goodC c = true
  | _, [], h => by simp [rdS]
  | true, c :: r, h => by
    have hr : ∀ x ∈ r, goodC x = true := fun x hx => h x (.tail _ hx)
    rw [rdS]
    split
    · exact rdS_good _ r hr
    · exact rdS_good _ r hr
  | false, c :: r, h => by
    have hr : ∀ x ∈ r, goodC x = true := fun x hx => h x (.tail _ hx)
    rw [rdS]
    repeat' split
    all_goals first | exact rdS_good _ r hr | exact rdA_good r _ hr | exact hr
end Mine
end

-- H0
section
namespace Mine

theorem lines_H0_0 : True := by
  k_with_none
  trivial
/-- how a lexer stands between two tokens: what is pushed back, what is left to read -/
def LexAt (buf : Str) (push : Option Nat) (r : List Nat) (pos : Int) (state : Value) (pb : Obj) : Prop :=
  0 ≤ pos ∧ buf.cps.toList.drop pos.toNat = r ∧ (∀ c ∈ r, goodC c = true) ∧ ((∃ t, state = .str (Str.ofString " ") t) ∨ (state = .none ∧ r = [])) ∧
    ((push = none ∧ ∃ st, pb = deq0 st) ∨ ∃ c st t, push = some c ∧ pb = deq1 st (.str ⟨#[c]⟩ t))
def remT (push : Option Nat) (r : List Nat) : List (List Nat) := pushT push ++ (lexT (some []) r).1
abbrev GtR (P : Params) (sx sd lx ld d1 d2 k1 k2 k3 t1 t2 : Nat) (kk vv : Nat → Nat) (wc buf : Str) (rest : List (Addr × Obj)) (push : Option Nat) (r : List Nat) (lineno : Int) : Heap → Addr → (Str → Option Value) → Heap → Value → Prop :=
  fun h₀ L _ h' v => ∃ t3' pos' state' lineno' tl' tt' pb' push' r', LexAt buf push' r' pos' state' pb' ∧ lineno' + ((lexT (some []) r').2 : Int) = lineno + ((lexT (some []) r).2 : Int) ∧
    ((v = .none ∧ remT push r = [] ∧ remT push' r' = [] ∧ (lexT (some []) r').2 = 0) ∨ ∃ tok t, v = .str (tokS tok) t ∧ tok ≠ [] ∧ remT push r = tok :: remT push' r') ∧
    News h₀ L h' (lexN P sx sd lx ld d1 d2 k1 k2 k3 t1 t2 t3' kk vv wc buf pos' state' lineno' tl' (Str.ofString "") tt' pb' rest)
theorem get_token_c (w : World) (mean : ExcName → Option Value) (mg mb : Str → Option Value) (rest : List (Addr × Obj)) (sx sd lx ld d1 d2 k1 k2 k3 t1 t2 t3 : Nat) (kk vv : Nat → Nat) (wc buf : Str) (pos : Int) (state : Value) (lineno : Int) (tl tt : Nat) (pb : Obj) (push : Option Nat) (r : List Nat)
   (h1 : sd < sx) (h2 : lx < sd) (h3 : ld < lx) (h4 : sx < d1) (h5 : d1 < d2) (hr1 : ∀ p ∈ rest, p.1 ≠ sd) (hr2 : ∀ p ∈ rest, p.1 ≠ ld) (hr3 : ∀ p ∈ rest, p.1 ≠ d1) (hln : buf.length ≤ 1000) (hwc : WcOk wc)
   (hl : LexAt buf push r pos state pb) :
   Ctr w mean mg mb 725 [.ref lx] 9 (lexN w.params sx sd lx ld d1 d2 k1 k2 k3 t1 t2 t3 kk vv wc buf pos state lineno tl (Str.ofString "") tt pb rest)
     (GtR w.params sx sd lx ld d1 d2 k1 k2 k3 t1 t2 kk vv wc buf rest push r lineno) := by
  obtain ⟨hpos, hdr, hgd, hst, hpb⟩ := hl
  rcases hpb with ⟨rfl, st, rfl⟩ | ⟨c, st, t, rfl, rfl⟩
  · subst hdr
    have key : ∃ out LN, RtMode (buf.cps.toList.drop pos.toNat) state lineno (Str.ofString "") out LN ∧ out = rdS false (buf.cps.toList.drop pos.toNat) ∧ LN = lineno + (out.lines : Int) := by
      rcases hst with ⟨t, rfl⟩ | ⟨rfl, he⟩
      · exact ⟨rdS false (buf.cps.toList.drop pos.toNat), _, .inl ⟨t, rfl, rfl, rfl, rfl, rfl, rfl, rfl⟩, rfl, rfl⟩
      · refine ⟨rdS false (buf.cps.toList.drop pos.toNat), _, .inr (.inr ⟨rfl, rfl, he, ?_⟩), rfl, rfl⟩
        rw [he]
        exact ⟨rfl, rfl, rfl, rfl, rfl⟩
    obtain ⟨out, LN, hm, ho, hL⟩ := key
    have hlx := (lexT_rdS (buf.cps.toList.drop pos.toNat)).1
    rw [← ho] at hlx
    by_cases hn : out.tok = []
    · have hen : out.ended = true := by rw [ho] at hn ⊢; exact rdS_nil _ _ hn
      have her := rdS_ended false (buf.cps.toList.drop pos.toNat)
      rw [← ho] at her
      obtain ⟨e1, e2⟩ := her hen
      refine (get_token_none w mean mg mb rest sx sd lx ld d1 d2 k1 k2 k3 t1 t2 t3 kk vv wc buf pos state lineno tl tt st out LN h1 h2 h3 h4 h5 hr1 hr2 hr3 hln hwc hpos hgd hm hn).mono ?_
      rintro _ _ _ _ _ ⟨t3', pos', state', tl', tt', pb', rfl, ⟨g1, g2, g3, g4, g5, g6, g7⟩, N⟩
      rw [e1] at g2
      refine ⟨t3', pos', state', LN, tl', tt', pb', none, [], ⟨g1, g2, (fun _ h => (nomatch h)), .inr ⟨g4 hen, rfl⟩, .inl ⟨rfl, st, g6 e2⟩⟩, ?_, .inl ⟨rfl, ?_, rfl, rfl⟩, N⟩
      · rw [hlx, e1, hL]
        simp [lexT]
      · unfold remT
        rw [hlx, e1, e2, hn]
        rfl
    · refine (get_token_some w mean mg mb rest sx sd lx ld d1 d2 k1 k2 k3 t1 t2 t3 kk vv wc buf pos state lineno tl tt st out LN h1 h2 h3 h4 h5 hr1 hr2 hr3 hln hwc hpos hgd hm hn).mono ?_
      rintro _ _ _ _ _ ⟨t, t3', pos', state', tl', tt', pb', rfl, ⟨g1, g2, g3, g4, g5, g6, g7⟩, N⟩
      have hgo : ∀ c ∈ out.rest, goodC c = true := by rw [ho]; exact rdS_good _ _ hgd
      refine ⟨t3', pos', state', LN, tl', tt', pb', out.push, out.rest, ⟨g1, g2, hgo, ?_, ?_⟩, ?_, .inr ⟨out.tok, t, rfl, hn, ?_⟩, N⟩
      · cases he : out.ended with
        | true =>
          have her := rdS_ended false (buf.cps.toList.drop pos.toNat)
          rw [← ho] at her
          exact .inr ⟨g4 he, (her he).1⟩
        | false => exact .inl (g5 he)
      · cases hp : out.push with
        | none => exact .inl ⟨rfl, st, g6 hp⟩
        | some c =>
          obtain ⟨t, e⟩ := g7 c hp
          exact .inr ⟨c, _, t, rfl, e⟩
      · rw [hlx, hL]
        simp only [Int.natCast_add]
        omega
      · show ([] : List (List Nat)) ++ _ = _
        rw [hlx]
        simp [oneT, hn, remT]
  · refine (get_token_push w mean mg mb rest sx sd lx ld d1 d2 k1 k2 k3 t1 t2 t3 kk vv wc buf pos state lineno tl tt st _ h1 h2 h3 h4 h5 hr1 hr2 hr3).mono ?_
    rintro _ _ _ _ _ ⟨rfl, N⟩
    exact ⟨t3, pos, state, lineno, tl, tt, _, none, r, ⟨hpos, hdr, hgd, hst, .inl ⟨rfl, _, rfl⟩⟩, rfl, .inr ⟨[c], t, rfl, by simp, rfl⟩, N⟩

end Mine
end

-- H1
section
namespace Mine

theorem lines_H1_0 : True := by
  k_with_none
  trivial
theorem news_rot6 {h₀ h : Heap} {L : Addr} {x a b c d e f : Addr × Obj} {r : List (Addr × Obj)} (N : News h₀ L h (x :: a :: b :: c :: d :: e :: f :: r)) : News h₀ L h (a :: b :: c :: d :: e :: f :: x :: r) := fun q hq => N q (by
  simp only [List.mem_cons] at hq ⊢
  rcases hq with h | h | h | h | h | h | h | h <;> simp [h])
theorem lexT_len : ∀ (r : List Nat) (o : Option (List Nat)), (lexT o r).1.length ≤ r.length + (if (o.getD []) = [] then 0 else 1)
  | [], none => by simp [lexT]
  | [], some cur => by
    by_cases h : cur = [] <;> simp [lexT, h]
  | c :: r, none => by
    rw [lexT]
    split
    · have := lexT_len r (some []); simp at this ⊢; omega
    · have := lexT_len r none; simp at this ⊢; omega
  | c :: r, some cur => by
    have h0 := lexT_len r (some [])
    have h1 := lexT_len r none
    have h2 := lexT_len r (some (cur ++ [c]))
    simp only [Option.getD_some, Option.getD_none, if_true] at h0 h1
    have h2' : (lexT (some (cur ++ [c])) r).1.length ≤ r.length + 1 := by
      refine Nat.le_trans h2 ?_
      split <;> omega
    rw [lexT]
    by_cases h : cur = []
    · simp only [h, if_true, List.nil_append, Option.getD_some, List.length_cons] at h2' ⊢
      repeat' split
      all_goals ((try simp only [List.length_cons, List.length_append, List.length_nil] at *); omega)
    · simp only [h, if_false, Option.getD_some, List.length_cons] at h2' ⊢
      repeat' split
      all_goals ((try simp only [List.length_cons, List.length_append, List.length_nil] at *); omega)
theorem lexT_len0 (r : List Nat) : (lexT (some []) r).1.length ≤ r.length := by simpa using lexT_len r (some [])
abbrev lxM (lx tk : Nat) (wr v : Value) : Str → Option Value := fun y =>
  if y = Str.ofString "token" then some v else if y = Str.ofString "tokens" then some (.ref tk) else if y = Str.ofString "lexer" then some (.ref lx) else List.lookup y [(Str.ofString "written", wr)]
theorem lxM_set {lx tk : Nat} {wr v v' : Value} : (fun y => if y = Str.ofString "token" then some v' else lxM lx tk wr v y) = lxM lx tk wr v' := by
  funext y
  show (if y = Str.ofString "token" then some v' else if y = Str.ofString "token" then some v else _) = (if y = Str.ofString "token" then some v' else _)
  by_cases h : y = Str.ofString "token"
  · rw [if_pos h, if_pos h]
  · rw [if_neg h, if_neg h, if_neg h]
abbrev LxJ (P : Params) (sx sd lx ld d1 d2 k1 k2 k3 t1 t2 tk : Nat) (kk vv : Nat → Nat) (wc buf : Str) (wr : Value) (news : List (Addr × Obj)) (all : List (List Nat)) (LN : Int) (n : Nat) (m : Str → Option Value) (led : List (Addr × Obj)) : Prop :=
  ∃ v its k t3 pos state lineno tl tt pb push r done, m = lxM lx tk wr v ∧
    led = lexN P sx sd lx ld d1 d2 k1 k2 k3 t1 t2 t3 kk vv wc buf pos state lineno tl (Str.ofString "") tt pb ((tk, listOf its k) :: news) ∧ LexAt buf push r pos state pb ∧ StrsAre its.toList (done.map tokS) ∧
    lineno + ((lexT (some []) r).2 : Int) = LN ∧
    ((v = .none ∧ all = done ∧ (lexT (some []) r).2 = 0) ∨ ∃ tok t, v = .str (tokS tok) t ∧ tok ≠ [] ∧ all = done ++ tok :: remT push r ∧ n = (remT push r).length + 1)
theorem news_pick8 {h₀ h : Heap} {L : Addr} {x a b c d e f y : Addr × Obj} {r : List (Addr × Obj)} (N : News h₀ L h (x :: a :: b :: c :: d :: e :: f :: y :: r)) : News h₀ L h (x :: y :: r) := fun q hq => N q (by
  simp only [List.mem_cons] at hq ⊢
  rcases hq with h | h | h <;> simp [h])
theorem allLt_mem {d : Nat} {l : List (Addr × Obj)} (h : AllLt d l) : ∀ p ∈ l, @LT.lt Nat instLTNat p.1 d := by
  induction l with
  | nil => intro p hp; cases hp
  | cons q r ih =>
    intro p hp
    rcases List.mem_cons.mp hp with rfl | hp
    · exact h.1
    · exact ih h.2 p hp
theorem StrsAre.snoc {vs : List Value} {ys : List Str} (h : StrsAre vs ys) (y : Str) (t : Tok) : StrsAre (vs ++ [.str y t]) (ys ++ [y]) := StrsAre.append' h (.cons y t .nil)
set_option maxRecDepth 100000 in
set_option maxHeartbeats 8000000 in
theorem lexed_c (w : World) (mean : ExcName → Option Value) (mg mb : Str → Option Value) (news : List (Addr × Obj)) (buf : Str) (t : Nat) (hgood : ∀ c ∈ buf.cps.toList, goodC c = true) (hln : buf.length ≤ 1000) :
   Ctr w mean mg mb 794 [.str buf t] 12 news
     (fun h₀ L _ h' v => ∃ tp tk n its ti, v = .ref tp ∧ StrsAre its ((lexT (some []) buf.cps.toList).1.map tokS) ∧
       News h₀ L h' ((tp, ({ cls := .type "tuple", data := .seq #[.ref tk, .int (1 + ((lexT (some []) buf.cps.toList).2 : Int)) ti] } : Obj)) :: (tk, listOf its.toArray n) :: news) ∧ (∀ p ∈ news, @LT.lt Nat instLTNat p.1 tk) ∧ @LT.lt Nat instLTNat tk tp) := by
  unfold Ctr
  k_fill
  intro dp un gd cn cs a ccd cl outer A₀ base h₀ L m s Q E B F X N T hk hdp hun hret
  refine wpAny_call ?_
  k_dflt (refine' code_def ?k1 ?k2 ?k3 ?k4 ?k5 ?kA ?kF ?kK ?k6 ?k7 ?k8 ?k9 ?kB ?_ ?c2 ?c3 ?c4 ?c5; (case kA => exact rfl); (case kF => exact rfl); (case kK => assumption); (case k1 => k_asm); (case k2 => k_asm); (case k3 => k_asm); (case k4 => k_asm); (case k5 => k_asm); (case k6 => k_is); (case k7 => k_is); (case k8 => ktr_room); (case k9 => exact kp_binds (binds := [(Str.ofString "written", .str buf t)]) (X.keeps F.keep) (fun S => by kernel_rfl)); (case c5 => decide); (case kB => exact locs rfl); (case c2 => exact rfl); (case c3 => exact rfl); (case c4 => exact rfl); k_whole; intro g' L' h' FG' F' N' B' X' T'; (try dsimp only); (try k_lift B'); (try k_fold))
  k_steps
  refine lexer_c w mean mg mb news buf t B' (by k_asm) X' (by k_asm) T' rfl (by show dp + 1 + 8 < _; omega) (by show un + 3 + 80 < _; omega) ?_
  intro sx sd lx ld d1 d2 k1 k2 k3 t1 t2 t3 kk vv wc tst tl tt h₂ tk₂ hwc F₂ N₂ l1 l2 l3 l4 l5 l6
  clear N' F'
  dsimp only
  (try k_fold)
  k_steps
  rename_i ta h₃ la h₄ F₄ N₄
  obtain ⟨m1, m2, m3, m4, m5, m6, m7⟩ := la
  have m7' := allLt_mem m7
  have hq1 : ∀ x : Obj, ∀ p ∈ ((ta, x) :: news), p.1 ≠ sd := fun x p hp => by
    rcases List.mem_cons.mp hp with rfl | hp
    · exact Nat.ne_of_gt m2
    · exact Nat.ne_of_lt (Nat.lt_trans (Nat.lt_trans (l6 p hp) l3) l2)
  have hq2 : ∀ x : Obj, ∀ p ∈ ((ta, x) :: news), p.1 ≠ ld := fun x p hp => by
    rcases List.mem_cons.mp hp with rfl | hp
    · exact Nat.ne_of_gt m4
    · exact Nat.ne_of_lt (l6 p hp)
  have hq3 : ∀ x : Obj, ∀ p ∈ ((ta, x) :: news), p.1 ≠ d1 := fun x p hp => by
    rcases List.mem_cons.mp hp with rfl | hp
    · exact Nat.ne_of_gt m5
    · exact Nat.ne_of_lt (Nat.lt_trans (Nat.lt_trans (Nat.lt_trans (Nat.lt_trans (l6 p hp) l3) l2) l1) l4)
  have hnt : ∀ p ∈ news, p.1 ≠ ta := fun p hp => Nat.ne_of_lt (m7' p hp)
  refine ctr_use (get_token_c w mean mg mb ((ta, listOf #[] 0) :: news) sx sd lx ld d1 d2 k1 k2 k3 t1 t2 t3 kk vv wc buf 0 (.str (Str.ofString " ") tst) 1 tl tt (deq0 0) none buf.cps.toList l1 l2 l3 l4 l5 (hq1 _) (hq2 _) (hq3 _) hln hwc
    ⟨Int.le_refl 0, rfl, hgood, .inl ⟨tst, rfl⟩, .inl ⟨rfl, 0, rfl⟩⟩) B' F₄ X' (news_rot6 N₄) T' rfl (by show dp + 1 + 9 < _; omega) (by show un + 3 + 8 * 9 < _; omega) ?_
  rintro v h₅ tk₅ F₅ ⟨t3', pos', state', lineno', tl', tt', pb', push', r', hl, hlin, hv, N₅⟩
  clear N₄ F₄
  dsimp only
  (try k_fold)
  repeat' (first | (k_unfold; (try dsimp only)) | ((fail_if_success (with_reducible show wpAny _ _ (exec (Stmt.While _ _ _ _) _) _ _ _)); (first | walk1 | (dsimp only; walk1))))
  rename Fr _ _ _ _ => F₆
  rename News _ _ _ _ => N₆
  have hLN : lineno' + ((lexT (some []) r').2 : Int) = 1 + ((lexT (some []) buf.cps.toList).2 : Int) := hlin
  have hall : (lexT (some []) buf.cps.toList).1 = remT none buf.cps.toList := rfl
  have hlen := lexT_len0 buf.cps.toList
  have hbl : buf.cps.size = buf.length := rfl
  refine While_inv2 (LxJ w.params sx sd lx ld d1 d2 k1 k2 k3 t1 t2 ta kk vv wc buf (.str buf t) news (lexT (some []) buf.cps.toList).1 (1 + ((lexT (some []) buf.cps.toList).2 : Int))) (n₀ := (remT push' r').length + 1) (m := lxM lx ta (.str buf t) v) F₆ N₆
    ⟨v, #[], 0, t3', pos', state', lineno', tl', tt', pb', push', r', [], rfl, rfl, hl, .nil, hLN, ?hv0⟩ ?_ (by first | passes_own | with_unfolding_all passes_own)
  case hv0 =>
    rcases hv with ⟨rfl, e1, e2, e3⟩ | ⟨tok, u, rfl, e1, e2⟩
    · exact .inl ⟨rfl, e1, e3⟩
    · exact .inr ⟨tok, u, rfl, e1, e2, rfl⟩
  clear F₆ N₆ hv hlin hLN hl
  rintro n₁ m₁ led₁ h₁ tk₁ F₁ N₁ ⟨v₁, its, k, t3₁, pos₁, state₁, lineno₁, tl₁, tt₁, pb₁, push₁, r₁, done, rfl, rfl, hl, hst, hlin, hv⟩
  rcases hv with ⟨rfl, e1, e2⟩ | ⟨tok, u, rfl, e1, e2, e3⟩
  · k_steps
    have eL : lineno₁ = 1 + ((lexT (some []) buf.cps.toList).2 : Int) := by omega
    subst eL
    have ea : its.toList.toArray = its := by simp
    refine hret _ _ _ (by k_asm) ⟨_, ta, k, its.toList, tl₁, rfl, by rw [e1]; exact hst, ?_, m7', ?_⟩
    · rw [ea]
      exact news_pick8 (by k_asm)
    · omega
  · have hsz : its.size ≤ 1000 := by
      have q := StrsAre.len_eq hst
      rw [e2] at hlen
      simp only [Array.length_toList, List.length_map, List.length_append, List.length_cons] at q hlen
      omega
    k_steps
    rename Fr _ _ _ _ => F₇
    rename News _ _ _ _ => N₇
    refine ctr_use (get_token_c w mean mg mb ((ta, listOf (its.push (.str (tokS tok) u)) (k + 1)) :: news) sx sd lx ld d1 d2 k1 k2 k3 t1 t2 t3₁ kk vv wc buf pos₁ state₁ lineno₁ tl₁ tt₁ pb₁ push₁ r₁ l1 l2 l3 l4 l5 (hq1 _) (hq2 _) (hq3 _) hln hwc hl) B' F₇ X' N₇ T' rfl (by show dp + 1 + 9 < _; omega) (by show un + 3 + 8 * 9 < _; omega) ?_
    rintro v₈ h₈ tk₈ F₈ ⟨t3₈, pos₈, state₈, lineno₈, tl₈, tt₈, pb₈, push₈, r₈, hl₈, hlin₈, hv₈, N₈⟩
    clear N₇ F₇
    dsimp only
    (try k_fold)
    k_steps
    rename Fr _ _ _ _ => F₉
    rename News _ _ _ _ => N₉
    rw [lxM_set] at F₉
    refine ⟨_, _, _, _, (remT push₁ r₁).length, rfl, F₉, N₉, by omega, v₈, _, _, t3₈, pos₈, state₈, lineno₈, tl₈, tt₈, pb₈, push₈, r₈, done ++ [tok], rfl, rfl, hl₈, ?_, hlin₈.trans hlin, ?_⟩
    · rw [Array.toList_push, List.map_append]
      exact StrsAre.snoc hst _ _
    · rcases hv₈ with ⟨rfl, f1, f2, f3⟩ | ⟨tok', u', rfl, f1, f2⟩
      · exact .inl ⟨rfl, by rw [e2, f1], f3⟩
      · exact .inr ⟨tok', u', rfl, f1, by rw [e2, f2]; simp, by rw [f2]; rfl⟩

end Mine
end

-- I0
section
namespace Mine

theorem lines_I0_0 : True := by
  k_with_none
  trivial
abbrev escM (v : Value) : Str → Option Value := fun y => if y = Str.ofString "text" then some v else none
theorem escM_set {v v' : Value} : (fun y => if y = Str.ofString "text" then some v' else escM v y) = escM v' := by
  funext y
  show (if y = Str.ofString "text" then some v' else if y = Str.ofString "text" then some v else none) = (if y = Str.ofString "text" then some v' else none)
  by_cases h : y = Str.ofString "text"
  · rw [if_pos h, if_pos h]
  · rw [if_neg h, if_neg h, if_neg h]
theorem replace_none {x c z : Str} (h : (Builtin.Str.occurrences x c 0 x.length 1).isEmpty = true) : Txt.replace x c z = x := by
  have key : (Builtin.Str.occurrences x c 0 x.length (x.length + 1)).isEmpty = true := by
    rcases StrLaws.occ_head_from x c 0 1 (Nat.le_refl 1) with ⟨_, hn⟩ | ⟨i, r, h0, _⟩
    · rcases StrLaws.occ_head_from x c 0 (x.length + 1) (by omega) with ⟨h1, _⟩ | ⟨i, r, _, h2, h3, _⟩
      · rw [h1]; rfl
      · exact absurd h3 (hn i h2)
    · rw [h0] at h; cases h
  unfold Txt.replace
  rw [key]
  rfl
section
variable {prog : Program} {w : World} {A : Around} {E : Value → Shared → Prop} {s : Shared} {h₀ : Heap} {L a : Addr} {news : List (Addr × Obj)} {name : Str} {sc : Scope} {cd : Value}
set_option maxRecDepth 10000 in
theorem esc_if {x c z : Str} {t k1 k2 k3 : Nat} {p1 p2 p3 p4 p5 p6 p7 p8 p9 p10 p11 : Pos} {Q : Flow → Shared → Prop} (hpos : 0 < s.toks) (F : Fr h₀ L s.heap (escM (.str x t))) (N : News h₀ L s.heap news)
    (hk : sc.kind = .function) (hl : (envOf name sc L a cd).kindOf (Str.ofString "text") = some .local) (hcz : (c == z) = false) (hz : z.length ≤ 14) (hx : x.length ≤ 1048576) {pl : Sem Bool} (he : eval (.Call (.Attribute (.Name (Str.ofString "text") p5) (Str.ofString "replace") p6) [.Constant (.str c) k2 p7, .Constant (.str z) k3 p8] [] p9) (envOf name sc L a cd) = (do
      let ov ← eval (.Name (Str.ofString "text") p5) (envOf name sc L a cd)
      standAt p6.atName
      let (f, first) ← holding [ov] (getMethod ov (Str.ofString "replace") pl)
      callWith p9 f first (backTo p9 (starEach [.Constant (.str c) k2 p7, .Constant (.str z) k3 p8] (envOf name sc L a cd))) []))
    (h : ∀ h' t' tk', 0 < tk' → Fr h₀ L h' (escM (.str (Txt.replace x c z) t')) → News h₀ L h' news → Q .next { s with heap := h', toks := tk' }) :
    wpAny (model prog w) A (exec (.If (.Compare (.Constant (.str c) k1 p1) [.In] [.Name (Str.ofString "text") p2] p3)
      [.Assign [.Name (Str.ofString "text") p4] (.Call (.Attribute (.Name (Str.ofString "text") p5) (Str.ofString "replace") p6) [.Constant (.str c) k2 p7, .Constant (.str z) k3 p8] [] p9) p10] [] p11) (envOf name sc L a cd)) Q E s := by
  refine wpAny_If (wpAny_isTrue_Compare1 (Calls.Constant_str (ld F (v := .str x t) rfl (in_str (wpAny_truthy_bool ?_)) hk hl)))
  cases ho : (Builtin.Str.occurrences x c 0 x.length 1).isEmpty with
  | true =>
    rw [show (!true) = false from rfl, if_neg Bool.false_ne_true]
    refine wpAny_execs_nil ?_
    refine h _ t _ (by show 0 < s.toks + 1; omega) ?_ N
    rw [replace_none ho]
    exact F
  | false =>
    rw [show (!false) = true from rfl, if_pos rfl]
    refine wpAny_execs_cons ?_
    refine wpAny_Assign_Name (MethodCall_ (pl := pl) ?_ he) rfl
    refine ld (s := { s with toks := s.toks + 1 }) F (v := .str x t) rfl ?_ hk hl
    refine GM.replace ?_
    refine Calls.callWith_builtin rfl (Calls.evalArgs_plain ?_)
    refine Calls.spliced_cons (Calls.Constant_str (k := k2) (pos := p7) ?_)
    refine Calls.spliced_cons (Calls.Constant_str (k := k3) (pos := p8) ?_)
    refine Calls.spliced_nil ?_
    refine SC.replaceW (by show s.toks + 1 ≠ 0; omega) (by show s.toks + 1 + 1 ≠ 0; omega) (by show s.toks + 1 ≠ s.toks + 1 + 1; omega) hcz hx hz fun t' k => ?_
    refine stN (s := { s with toks := k }) F N (fun h' F' N' => wpAny_execs_nil ?_) hk hl
    rw [escM_set] at F'
    exact h h' t' (k + 1) (Nat.succ_pos _) F' N'
end

end Mine
end

-- P1
section
namespace Mine
def mkS (l : List Nat) : Str := ⟨l.toArray⟩
theorem mkS_cps (l : List Nat) : (mkS l).cps.toList = l := rfl
theorem mkS_of (x : Str) : mkS x.cps.toList = x := by
  obtain ⟨⟨l⟩⟩ := x
  rfl
theorem mkS_len (l : List Nat) : (mkS l).length = l.length := by simp [mkS, Str.length]
def rep (c : Nat) (z l : List Nat) : List Nat := l.flatMap fun d => if d = c then z else [d]
theorem rep_free {c : Nat} {z : List Nat} : ∀ {l : List Nat}, c ∉ l → rep c z l = l
  | [], _ => rfl
  | d :: l, h => by
    have h1 : d ≠ c := fun e => h (e ▸ .head _)
    have h2 := rep_free (z := z) (l := l) fun q => h (.tail _ q)
    show (if d = c then z else [d]) ++ rep c z l = _
    rw [if_neg h1, h2]; rfl
theorem rep_append (c : Nat) (z a b : List Nat) : rep c z (a ++ b) = rep c z a ++ rep c z b := by simp [rep]
theorem rep_join (c : Nat) (z : Str) : ∀ parts : List Str, (∀ p ∈ parts, c ∉ p.cps.toList) → rep c z.cps.toList (Str.join ⟨#[c]⟩ parts).cps.toList = (Str.join z parts).cps.toList
  | [], _ => rfl
  | [x], h => rep_free (h x (.head _))
  | x :: y :: r, h => by
    have ih := rep_join c z (y :: r) fun p hp => h p (.tail _ hp)
    have e1 : (Str.join ⟨#[c]⟩ (x :: y :: r)).cps.toList = x.cps.toList ++ [c] ++ (Str.join ⟨#[c]⟩ (y :: r)).cps.toList := by
      show ((x.cps ++ #[c]) ++ (Str.join ⟨#[c]⟩ (y :: r)).cps).toList = _
      simp
    have e2 : (Str.join z (x :: y :: r)).cps.toList = x.cps.toList ++ z.cps.toList ++ (Str.join z (y :: r)).cps.toList := by
      show ((x.cps ++ z.cps) ++ (Str.join z (y :: r)).cps).toList = _
      simp
    rw [e1, e2, rep_append, rep_append, ih, rep_free (h x (.head _))]
    simp [rep]
theorem replace_rep (x z : Str) (c : Nat) : (Txt.replace x ⟨#[c]⟩ z).cps.toList = rep c z.cps.toList x.cps.toList := by
  rw [StrLaws.replace_one, ← rep_join c z _ (StrLaws.split_free x c), StrLaws.join_split]
theorem replace_mk {l : List Nat} {c : Nat} {y z : Str} {zl : List Nat} (hy : y = ⟨#[c]⟩) (hz : z.cps.toList = zl) : Txt.replace (mkS l) y z = mkS (rep c zl l) := by
  subst hy hz
  rw [← mkS_of (Txt.replace (mkS l) ⟨#[c]⟩ z), replace_rep]
  rfl
theorem rep_len {c : Nat} {z : List Nat} {k : Nat} (hz : z.length ≤ k) (hk : 1 ≤ k) : ∀ l : List Nat, (rep c z l).length ≤ k * l.length
  | [] => by simp [rep]
  | d :: l => by
    have ih := rep_len (c := c) hz hk l
    show ((if d = c then z else [d]) ++ rep c z l).length ≤ _
    rw [List.length_append, List.length_cons, Nat.mul_succ]
    have : (if d = c then z else [d]).length ≤ k := by
      split
      · exact hz
      · simpa using hk
    omega
end Mine
end

-- I1
section
namespace Mine

theorem lines_I1_0 : True := by
  k_with_none
  trivial
theorem escM_in {v : Value} : (fun y => List.lookup y [(Str.ofString "text", v)].reverse) = escM v := by
  funext y
  show List.lookup y [(Str.ofString "text", v)] = if y = Str.ofString "text" then some v else none
  rw [List.lookup_cons]
  by_cases h : y = Str.ofString "text"
  · rw [if_pos h, beq_iff_eq.mpr h]
  · rw [if_neg h, beq_eq_false_iff_ne.mpr h]; rfl
/-- one more replacement is at most six times as long -/
theorem rep6 {c : Nat} {z l : List Nat} {n : Nat} (hz : z.length ≤ 6) (h : l.length ≤ n) : (rep c z l).length ≤ 6 * n := Nat.le_trans (rep_len hz (by decide) l) (Nat.mul_le_mul_left 6 h)
def esc0 (l : List Nat) : List Nat := (rep 62 [38, 103, 116, 59] (rep 60 [38, 108, 116, 59] (rep 38 [38, 97, 109, 112, 59] l)))
def esc1 (l : List Nat) : List Nat := (rep 9 [38, 35, 48, 57, 59] (rep 10 [38, 35, 49, 48, 59] (rep 13 [38, 35, 49, 51, 59] (rep 34 [38, 113, 117, 111, 116, 59] (rep 62 [38, 103, 116, 59] (rep 60 [38, 108, 116, 59] (rep 38 [38, 97, 109, 112, 59] l)))))))
def esc2 (l : List Nat) : List Nat := (rep 34 [38, 113, 117, 111, 116, 59] (rep 62 [38, 103, 116, 59] (rep 38 [38, 97, 109, 112, 59] l)))
def esc3 (l : List Nat) : List Nat := (rep 13 [38, 35, 120, 68, 59] (rep 62 [38, 103, 116, 59] (rep 60 [38, 108, 116, 59] (rep 38 [38, 97, 109, 112, 59] l))))
def esc4 (l : List Nat) : List Nat := (rep 13 [38, 35, 120, 68, 59] (rep 10 [38, 35, 120, 65, 59] (rep 9 [38, 35, 120, 57, 59] (rep 34 [38, 113, 117, 111, 116, 59] (rep 60 [38, 108, 116, 59] (rep 38 [38, 97, 109, 112, 59] l))))))
set_option maxRecDepth 100000 in
set_option maxHeartbeats 8000000 in
theorem esc0_c (w : World) (mean : ExcName → Option Value) (mg mb : Str → Option Value) (news : List (Addr × Obj)) (l : List Nat) (t : Nat) (hx : l.length ≤ 22) :
   Ctr w mean mg mb 53 [.str (mkS l) t] 1 news (fun h₀ L _ h' v => (∃ t, v = .str (mkS (esc0 l)) t) ∧ News h₀ L h' news) := by
  unfold Ctr
  k_fill
  intro dp un gd cn cs a ccd cl outer A₀ base h₀ L m s Q E B F X N T hk hdp hun hret
  refine wpAny_call ?_
  k_dflt (refine' code_def ?k1 ?k2 ?k3 ?k4 ?k5 ?kA ?kF ?kK ?k6 ?k7 ?k8 ?k9 ?kB ?_ ?c2 ?c3 ?c4 ?c5; (case kA => exact rfl); (case kF => exact rfl); (case kK => assumption); (case k1 => k_asm); (case k2 => k_asm); (case k3 => k_asm); (case k4 => k_asm); (case k5 => k_asm); (case k6 => k_is); (case k7 => k_is); (case k8 => ktr_room); (case k9 => exact kp_binds (binds := [(Str.ofString "text", .str (mkS l) t)]) (X.keeps F.keep) (fun S => by kernel_rfl)); (case c5 => decide); (case kB => exact locs rfl); (case c2 => exact rfl); (case c3 => exact rfl); (case c4 => exact rfl); k_whole; intro g' L' h' FG' F' N' B' X' T'; (try dsimp only); (try k_lift B'); (try k_fold))
  rw [escM_in] at F'
  refine wpAny_execs_cons (wpAny_Try_except ?_)
  have b0 := hx
  refine wpAny_execs_cons (esc_if (by show 0 < s.toks + 1; omega) F' N' rfl rfl (by decide +kernel) (by decide +kernel) (by rw [mkS_len]; omega) rfl ?_)
  intro h1 t1 tk1 hp1 F1 N1
  rw [replace_mk (c := 38) (zl := [38, 97, 109, 112, 59]) (by decide +kernel) (by decide +kernel)] at F1
  have b1 := rep6 (c := 38) (z := [38, 97, 109, 112, 59]) (by decide) b0
  dsimp only
  refine wpAny_execs_cons (esc_if hp1 F1 N1 rfl rfl (by decide +kernel) (by decide +kernel) (by rw [mkS_len]; omega) rfl ?_)
  intro h2 t2 tk2 hp2 F2 N2
  rw [replace_mk (c := 60) (zl := [38, 108, 116, 59]) (by decide +kernel) (by decide +kernel)] at F2
  have b2 := rep6 (c := 60) (z := [38, 108, 116, 59]) (by decide) b1
  dsimp only
  refine wpAny_execs_cons (esc_if hp2 F2 N2 rfl rfl (by decide +kernel) (by decide +kernel) (by rw [mkS_len]; omega) rfl ?_)
  intro h3 t3 tk3 hp3 F3 N3
  rw [replace_mk (c := 62) (zl := [38, 103, 116, 59]) (by decide +kernel) (by decide +kernel)] at F3
  have b3 := rep6 (c := 62) (z := [38, 103, 116, 59]) (by decide) b2
  dsimp only
  k_steps
  all_goals exact hret _ _ _ (by k_asm) ⟨⟨_, rfl⟩, by k_asm⟩
set_option maxRecDepth 100000 in
set_option maxHeartbeats 8000000 in
theorem esc1_c (w : World) (mean : ExcName → Option Value) (mg mb : Str → Option Value) (news : List (Addr × Obj)) (l : List Nat) (t : Nat) (hx : l.length ≤ 22) :
   Ctr w mean mg mb 60 [.str (mkS l) t] 1 news (fun h₀ L _ h' v => (∃ t, v = .str (mkS (esc1 l)) t) ∧ News h₀ L h' news) := by
  unfold Ctr
  k_fill
  intro dp un gd cn cs a ccd cl outer A₀ base h₀ L m s Q E B F X N T hk hdp hun hret
  refine wpAny_call ?_
  k_dflt (refine' code_def ?k1 ?k2 ?k3 ?k4 ?k5 ?kA ?kF ?kK ?k6 ?k7 ?k8 ?k9 ?kB ?_ ?c2 ?c3 ?c4 ?c5; (case kA => exact rfl); (case kF => exact rfl); (case kK => assumption); (case k1 => k_asm); (case k2 => k_asm); (case k3 => k_asm); (case k4 => k_asm); (case k5 => k_asm); (case k6 => k_is); (case k7 => k_is); (case k8 => ktr_room); (case k9 => exact kp_binds (binds := [(Str.ofString "text", .str (mkS l) t)]) (X.keeps F.keep) (fun S => by kernel_rfl)); (case c5 => decide); (case kB => exact locs rfl); (case c2 => exact rfl); (case c3 => exact rfl); (case c4 => exact rfl); k_whole; intro g' L' h' FG' F' N' B' X' T'; (try dsimp only); (try k_lift B'); (try k_fold))
  rw [escM_in] at F'
  refine wpAny_execs_cons (wpAny_Try_except ?_)
  have b0 := hx
  refine wpAny_execs_cons (esc_if (by show 0 < s.toks + 1; omega) F' N' rfl rfl (by decide +kernel) (by decide +kernel) (by rw [mkS_len]; omega) rfl ?_)
  intro h1 t1 tk1 hp1 F1 N1
  rw [replace_mk (c := 38) (zl := [38, 97, 109, 112, 59]) (by decide +kernel) (by decide +kernel)] at F1
  have b1 := rep6 (c := 38) (z := [38, 97, 109, 112, 59]) (by decide) b0
  dsimp only
  refine wpAny_execs_cons (esc_if hp1 F1 N1 rfl rfl (by decide +kernel) (by decide +kernel) (by rw [mkS_len]; omega) rfl ?_)
  intro h2 t2 tk2 hp2 F2 N2
  rw [replace_mk (c := 60) (zl := [38, 108, 116, 59]) (by decide +kernel) (by decide +kernel)] at F2
  have b2 := rep6 (c := 60) (z := [38, 108, 116, 59]) (by decide) b1
  dsimp only
  refine wpAny_execs_cons (esc_if hp2 F2 N2 rfl rfl (by decide +kernel) (by decide +kernel) (by rw [mkS_len]; omega) rfl ?_)
  intro h3 t3 tk3 hp3 F3 N3
  rw [replace_mk (c := 62) (zl := [38, 103, 116, 59]) (by decide +kernel) (by decide +kernel)] at F3
  have b3 := rep6 (c := 62) (z := [38, 103, 116, 59]) (by decide) b2
  dsimp only
  refine wpAny_execs_cons (esc_if hp3 F3 N3 rfl rfl (by decide +kernel) (by decide +kernel) (by rw [mkS_len]; omega) rfl ?_)
  intro h4 t4 tk4 hp4 F4 N4
  rw [replace_mk (c := 34) (zl := [38, 113, 117, 111, 116, 59]) (by decide +kernel) (by decide +kernel)] at F4
  have b4 := rep6 (c := 34) (z := [38, 113, 117, 111, 116, 59]) (by decide) b3
  dsimp only
  refine wpAny_execs_cons (esc_if hp4 F4 N4 rfl rfl (by decide +kernel) (by decide +kernel) (by rw [mkS_len]; omega) rfl ?_)
  intro h5 t5 tk5 hp5 F5 N5
  rw [replace_mk (c := 13) (zl := [38, 35, 49, 51, 59]) (by decide +kernel) (by decide +kernel)] at F5
  have b5 := rep6 (c := 13) (z := [38, 35, 49, 51, 59]) (by decide) b4
  dsimp only
  refine wpAny_execs_cons (esc_if hp5 F5 N5 rfl rfl (by decide +kernel) (by decide +kernel) (by rw [mkS_len]; omega) rfl ?_)
  intro h6 t6 tk6 hp6 F6 N6
  rw [replace_mk (c := 10) (zl := [38, 35, 49, 48, 59]) (by decide +kernel) (by decide +kernel)] at F6
  have b6 := rep6 (c := 10) (z := [38, 35, 49, 48, 59]) (by decide) b5
  dsimp only
  refine wpAny_execs_cons (esc_if hp6 F6 N6 rfl rfl (by decide +kernel) (by decide +kernel) (by rw [mkS_len]; omega) rfl ?_)
  intro h7 t7 tk7 hp7 F7 N7
  rw [replace_mk (c := 9) (zl := [38, 35, 48, 57, 59]) (by decide +kernel) (by decide +kernel)] at F7
  have b7 := rep6 (c := 9) (z := [38, 35, 48, 57, 59]) (by decide) b6
  dsimp only
  k_steps
  all_goals exact hret _ _ _ (by k_asm) ⟨⟨_, rfl⟩, by k_asm⟩
set_option maxRecDepth 100000 in
set_option maxHeartbeats 8000000 in
theorem esc2_c (w : World) (mean : ExcName → Option Value) (mg mb : Str → Option Value) (news : List (Addr × Obj)) (l : List Nat) (t : Nat) (hx : l.length ≤ 22) :
   Ctr w mean mg mb 67 [.str (mkS l) t] 1 news (fun h₀ L _ h' v => (∃ t, v = .str (mkS (esc2 l)) t) ∧ News h₀ L h' news) := by
  unfold Ctr
  k_fill
  intro dp un gd cn cs a ccd cl outer A₀ base h₀ L m s Q E B F X N T hk hdp hun hret
  refine wpAny_call ?_
  k_dflt (refine' code_def ?k1 ?k2 ?k3 ?k4 ?k5 ?kA ?kF ?kK ?k6 ?k7 ?k8 ?k9 ?kB ?_ ?c2 ?c3 ?c4 ?c5; (case kA => exact rfl); (case kF => exact rfl); (case kK => assumption); (case k1 => k_asm); (case k2 => k_asm); (case k3 => k_asm); (case k4 => k_asm); (case k5 => k_asm); (case k6 => k_is); (case k7 => k_is); (case k8 => ktr_room); (case k9 => exact kp_binds (binds := [(Str.ofString "text", .str (mkS l) t)]) (X.keeps F.keep) (fun S => by kernel_rfl)); (case c5 => decide); (case kB => exact locs rfl); (case c2 => exact rfl); (case c3 => exact rfl); (case c4 => exact rfl); k_whole; intro g' L' h' FG' F' N' B' X' T'; (try dsimp only); (try k_lift B'); (try k_fold))
  rw [escM_in] at F'
  refine wpAny_execs_cons (wpAny_Try_except ?_)
  have b0 := hx
  refine wpAny_execs_cons (esc_if (by show 0 < s.toks + 1; omega) F' N' rfl rfl (by decide +kernel) (by decide +kernel) (by rw [mkS_len]; omega) rfl ?_)
  intro h1 t1 tk1 hp1 F1 N1
  rw [replace_mk (c := 38) (zl := [38, 97, 109, 112, 59]) (by decide +kernel) (by decide +kernel)] at F1
  have b1 := rep6 (c := 38) (z := [38, 97, 109, 112, 59]) (by decide) b0
  dsimp only
  refine wpAny_execs_cons (esc_if hp1 F1 N1 rfl rfl (by decide +kernel) (by decide +kernel) (by rw [mkS_len]; omega) rfl ?_)
  intro h2 t2 tk2 hp2 F2 N2
  rw [replace_mk (c := 62) (zl := [38, 103, 116, 59]) (by decide +kernel) (by decide +kernel)] at F2
  have b2 := rep6 (c := 62) (z := [38, 103, 116, 59]) (by decide) b1
  dsimp only
  refine wpAny_execs_cons (esc_if hp2 F2 N2 rfl rfl (by decide +kernel) (by decide +kernel) (by rw [mkS_len]; omega) rfl ?_)
  intro h3 t3 tk3 hp3 F3 N3
  rw [replace_mk (c := 34) (zl := [38, 113, 117, 111, 116, 59]) (by decide +kernel) (by decide +kernel)] at F3
  have b3 := rep6 (c := 34) (z := [38, 113, 117, 111, 116, 59]) (by decide) b2
  dsimp only
  k_steps
  all_goals exact hret _ _ _ (by k_asm) ⟨⟨_, rfl⟩, by k_asm⟩
set_option maxRecDepth 100000 in
set_option maxHeartbeats 8000000 in
theorem esc3_c (w : World) (mean : ExcName → Option Value) (mg mb : Str → Option Value) (news : List (Addr × Obj)) (l : List Nat) (t : Nat) (hx : l.length ≤ 22) :
   Ctr w mean mg mb 74 [.str (mkS l) t] 1 news (fun h₀ L _ h' v => (∃ t, v = .str (mkS (esc3 l)) t) ∧ News h₀ L h' news) := by
  unfold Ctr
  k_fill
  intro dp un gd cn cs a ccd cl outer A₀ base h₀ L m s Q E B F X N T hk hdp hun hret
  refine wpAny_call ?_
  k_dflt (refine' code_def ?k1 ?k2 ?k3 ?k4 ?k5 ?kA ?kF ?kK ?k6 ?k7 ?k8 ?k9 ?kB ?_ ?c2 ?c3 ?c4 ?c5; (case kA => exact rfl); (case kF => exact rfl); (case kK => assumption); (case k1 => k_asm); (case k2 => k_asm); (case k3 => k_asm); (case k4 => k_asm); (case k5 => k_asm); (case k6 => k_is); (case k7 => k_is); (case k8 => ktr_room); (case k9 => exact kp_binds (binds := [(Str.ofString "text", .str (mkS l) t)]) (X.keeps F.keep) (fun S => by kernel_rfl)); (case c5 => decide); (case kB => exact locs rfl); (case c2 => exact rfl); (case c3 => exact rfl); (case c4 => exact rfl); k_whole; intro g' L' h' FG' F' N' B' X' T'; (try dsimp only); (try k_lift B'); (try k_fold))
  rw [escM_in] at F'
  refine wpAny_execs_cons (wpAny_Try_except ?_)
  have b0 := hx
  refine wpAny_execs_cons (esc_if (by show 0 < s.toks + 1; omega) F' N' rfl rfl (by decide +kernel) (by decide +kernel) (by rw [mkS_len]; omega) rfl ?_)
  intro h1 t1 tk1 hp1 F1 N1
  rw [replace_mk (c := 38) (zl := [38, 97, 109, 112, 59]) (by decide +kernel) (by decide +kernel)] at F1
  have b1 := rep6 (c := 38) (z := [38, 97, 109, 112, 59]) (by decide) b0
  dsimp only
  refine wpAny_execs_cons (esc_if hp1 F1 N1 rfl rfl (by decide +kernel) (by decide +kernel) (by rw [mkS_len]; omega) rfl ?_)
  intro h2 t2 tk2 hp2 F2 N2
  rw [replace_mk (c := 60) (zl := [38, 108, 116, 59]) (by decide +kernel) (by decide +kernel)] at F2
  have b2 := rep6 (c := 60) (z := [38, 108, 116, 59]) (by decide) b1
  dsimp only
  refine wpAny_execs_cons (esc_if hp2 F2 N2 rfl rfl (by decide +kernel) (by decide +kernel) (by rw [mkS_len]; omega) rfl ?_)
  intro h3 t3 tk3 hp3 F3 N3
  rw [replace_mk (c := 62) (zl := [38, 103, 116, 59]) (by decide +kernel) (by decide +kernel)] at F3
  have b3 := rep6 (c := 62) (z := [38, 103, 116, 59]) (by decide) b2
  dsimp only
  refine wpAny_execs_cons (esc_if hp3 F3 N3 rfl rfl (by decide +kernel) (by decide +kernel) (by rw [mkS_len]; omega) rfl ?_)
  intro h4 t4 tk4 hp4 F4 N4
  rw [replace_mk (c := 13) (zl := [38, 35, 120, 68, 59]) (by decide +kernel) (by decide +kernel)] at F4
  have b4 := rep6 (c := 13) (z := [38, 35, 120, 68, 59]) (by decide) b3
  dsimp only
  k_steps
  all_goals exact hret _ _ _ (by k_asm) ⟨⟨_, rfl⟩, by k_asm⟩
set_option maxRecDepth 100000 in
set_option maxHeartbeats 8000000 in
theorem esc4_c (w : World) (mean : ExcName → Option Value) (mg mb : Str → Option Value) (news : List (Addr × Obj)) (l : List Nat) (t : Nat) (hx : l.length ≤ 22) :
   Ctr w mean mg mb 81 [.str (mkS l) t] 1 news (fun h₀ L _ h' v => (∃ t, v = .str (mkS (esc4 l)) t) ∧ News h₀ L h' news) := by
  unfold Ctr
  k_fill
  intro dp un gd cn cs a ccd cl outer A₀ base h₀ L m s Q E B F X N T hk hdp hun hret
  refine wpAny_call ?_
  k_dflt (refine' code_def ?k1 ?k2 ?k3 ?k4 ?k5 ?kA ?kF ?kK ?k6 ?k7 ?k8 ?k9 ?kB ?_ ?c2 ?c3 ?c4 ?c5; (case kA => exact rfl); (case kF => exact rfl); (case kK => assumption); (case k1 => k_asm); (case k2 => k_asm); (case k3 => k_asm); (case k4 => k_asm); (case k5 => k_asm); (case k6 => k_is); (case k7 => k_is); (case k8 => ktr_room); (case k9 => exact kp_binds (binds := [(Str.ofString "text", .str (mkS l) t)]) (X.keeps F.keep) (fun S => by kernel_rfl)); (case c5 => decide); (case kB => exact locs rfl); (case c2 => exact rfl); (case c3 => exact rfl); (case c4 => exact rfl); k_whole; intro g' L' h' FG' F' N' B' X' T'; (try dsimp only); (try k_lift B'); (try k_fold))
  rw [escM_in] at F'
  refine wpAny_execs_cons (wpAny_Try_except ?_)
  have b0 := hx
  refine wpAny_execs_cons (esc_if (by show 0 < s.toks + 1; omega) F' N' rfl rfl (by decide +kernel) (by decide +kernel) (by rw [mkS_len]; omega) rfl ?_)
  intro h1 t1 tk1 hp1 F1 N1
  rw [replace_mk (c := 38) (zl := [38, 97, 109, 112, 59]) (by decide +kernel) (by decide +kernel)] at F1
  have b1 := rep6 (c := 38) (z := [38, 97, 109, 112, 59]) (by decide) b0
  dsimp only
  refine wpAny_execs_cons (esc_if hp1 F1 N1 rfl rfl (by decide +kernel) (by decide +kernel) (by rw [mkS_len]; omega) rfl ?_)
  intro h2 t2 tk2 hp2 F2 N2
  rw [replace_mk (c := 60) (zl := [38, 108, 116, 59]) (by decide +kernel) (by decide +kernel)] at F2
  have b2 := rep6 (c := 60) (z := [38, 108, 116, 59]) (by decide) b1
  dsimp only
  refine wpAny_execs_cons (esc_if hp2 F2 N2 rfl rfl (by decide +kernel) (by decide +kernel) (by rw [mkS_len]; omega) rfl ?_)
  intro h3 t3 tk3 hp3 F3 N3
  rw [replace_mk (c := 34) (zl := [38, 113, 117, 111, 116, 59]) (by decide +kernel) (by decide +kernel)] at F3
  have b3 := rep6 (c := 34) (z := [38, 113, 117, 111, 116, 59]) (by decide) b2
  dsimp only
  refine wpAny_execs_cons (esc_if hp3 F3 N3 rfl rfl (by decide +kernel) (by decide +kernel) (by rw [mkS_len]; omega) rfl ?_)
  intro h4 t4 tk4 hp4 F4 N4
  rw [replace_mk (c := 9) (zl := [38, 35, 120, 57, 59]) (by decide +kernel) (by decide +kernel)] at F4
  have b4 := rep6 (c := 9) (z := [38, 35, 120, 57, 59]) (by decide) b3
  dsimp only
  refine wpAny_execs_cons (esc_if hp4 F4 N4 rfl rfl (by decide +kernel) (by decide +kernel) (by rw [mkS_len]; omega) rfl ?_)
  intro h5 t5 tk5 hp5 F5 N5
  rw [replace_mk (c := 10) (zl := [38, 35, 120, 65, 59]) (by decide +kernel) (by decide +kernel)] at F5
  have b5 := rep6 (c := 10) (z := [38, 35, 120, 65, 59]) (by decide) b4
  dsimp only
  refine wpAny_execs_cons (esc_if hp5 F5 N5 rfl rfl (by decide +kernel) (by decide +kernel) (by rw [mkS_len]; omega) rfl ?_)
  intro h6 t6 tk6 hp6 F6 N6
  rw [replace_mk (c := 13) (zl := [38, 35, 120, 68, 59]) (by decide +kernel) (by decide +kernel)] at F6
  have b6 := rep6 (c := 13) (z := [38, 35, 120, 68, 59]) (by decide) b5
  dsimp only
  k_steps
  all_goals exact hret _ _ _ (by k_asm) ⟨⟨_, rfl⟩, by k_asm⟩

end Mine
end

-- I2
section
namespace Mine

theorem lines_I2_0 : True := by
  k_with_none
  trivial
theorem lines_I2_1 : True := by
  k_with "call ref" => (k_here; (try dsimp only); (with_reducible show wpAny _ _ (call (Value.ref 53) _ _) _ _ _); k_dflt (refine' ctr_use2 (by k_asm) (by k_asm) (by k_asm) (by first | k_asm | exact news_tail (by k_asm)) (by k_asm) (by first | exact rfl | assumption) (by ktr_room) (by ktr_units) (esc0_c _ _ _ _ _ _ _ (by assumption)) ?_); rintro _ _ _ _ ⟨⟨_, rfl⟩, _⟩; (try dsimp only); (try k_fold))
  k_with "call ref" => (k_here; (try dsimp only); (with_reducible show wpAny _ _ (call (Value.ref 60) _ _) _ _ _); k_dflt (refine' ctr_use2 (by k_asm) (by k_asm) (by k_asm) (by first | k_asm | exact news_tail (by k_asm)) (by k_asm) (by first | exact rfl | assumption) (by ktr_room) (by ktr_units) (esc1_c _ _ _ _ _ _ _ (by assumption)) ?_); rintro _ _ _ _ ⟨⟨_, rfl⟩, _⟩; (try dsimp only); (try k_fold))
  k_with "call ref" => (k_here; (try dsimp only); (with_reducible show wpAny _ _ (call (Value.ref 67) _ _) _ _ _); k_dflt (refine' ctr_use2 (by k_asm) (by k_asm) (by k_asm) (by first | k_asm | exact news_tail (by k_asm)) (by k_asm) (by first | exact rfl | assumption) (by ktr_room) (by ktr_units) (esc2_c _ _ _ _ _ _ _ (by assumption)) ?_); rintro _ _ _ _ ⟨⟨_, rfl⟩, _⟩; (try dsimp only); (try k_fold))
  k_with "call ref" => (k_here; (try dsimp only); (with_reducible show wpAny _ _ (call (Value.ref 74) _ _) _ _ _); k_dflt (refine' ctr_use2 (by k_asm) (by k_asm) (by k_asm) (by first | k_asm | exact news_tail (by k_asm)) (by k_asm) (by first | exact rfl | assumption) (by ktr_room) (by ktr_units) (esc3_c _ _ _ _ _ _ _ (by assumption)) ?_); rintro _ _ _ _ ⟨⟨_, rfl⟩, _⟩; (try dsimp only); (try k_fold))
  k_with "call ref" => (k_here; (try dsimp only); (with_reducible show wpAny _ _ (call (Value.ref 81) _ _) _ _ _); k_dflt (refine' ctr_use2 (by k_asm) (by k_asm) (by k_asm) (by first | k_asm | exact news_tail (by k_asm)) (by k_asm) (by first | exact rfl | assumption) (by ktr_room) (by ktr_units) (esc4_c _ _ _ _ _ _ _ (by assumption)) ?_); rintro _ _ _ _ ⟨⟨_, rfl⟩, _⟩; (try dsimp only); (try k_fold))
  trivial
def escT (turn : Int) (l : List Nat) : List Nat := if turn = 0 then esc0 l else if turn = 1 then esc1 l else if turn = 2 then esc2 l else if turn = 3 then esc3 l else esc4 l
set_option maxRecDepth 100000 in
set_option maxHeartbeats 8000000 in
theorem escaped_c (w : World) (mean : ExcName → Option Value) (mg mb : Str → Option Value) (news : List (Addr × Obj)) (turn : Int) (l : List Nat) (t t' : Nat) (hx : l.length ≤ 22) :
   Ctr w mean mg mb 787 [.int turn t', .str (mkS l) t] 2 news (fun h₀ L _ h' v => (∃ t, v = .str (mkS (escT turn l)) t) ∧ News h₀ L h' news) := by
  unfold Ctr
  k_fill
  intro dp un gd cn cs a ccd cl outer A₀ base h₀ L m s Q E B F X N T hk hdp hun hret
  refine wpAny_call ?_
  k_dflt (refine' code_def ?k1 ?k2 ?k3 ?k4 ?k5 ?kA ?kF ?kK ?k6 ?k7 ?k8 ?k9 ?kB ?_ ?c2 ?c3 ?c4 ?c5; (case kA => exact rfl); (case kF => exact rfl); (case kK => assumption); (case k1 => k_asm); (case k2 => k_asm); (case k3 => k_asm); (case k4 => k_asm); (case k5 => k_asm); (case k6 => k_is); (case k7 => k_is); (case k8 => ktr_room); (case k9 => exact kp_binds (binds := [(Str.ofString "turn", .int turn t'), (Str.ofString "text", .str (mkS l) t)]) (X.keeps F.keep) (fun S => by kernel_rfl)); (case c5 => decide); (case kB => exact locs rfl); (case c2 => exact rfl); (case c3 => exact rfl); (case c4 => exact rfl); k_whole; intro g' L' h' FG' F' N' B' X' T'; (try dsimp only); (try k_lift B'); (try k_fold))
  k_steps
  all_goals (first
    | exact hret _ _ _ (by k_asm) ⟨⟨_, by unfold escT; (repeat' split) <;> first | rfl | (exfalso; omega)⟩, by k_asm⟩)

end Mine
end

-- P2
section
namespace Mine
theorem join_mk' : ∀ ls : List (List Nat), Str.join (Str.ofString "") (ls.map mkS) = mkS ls.flatten
  | [] => rfl
  | [x] => by show mkS x = _; simp
  | x :: y :: r => by
    have ih := join_mk' (y :: r)
    have e : Str.join (Str.ofString "") (mkS x :: mkS y :: r.map mkS) = mkS x ++ Str.ofString "" ++ Str.join (Str.ofString "") (mkS y :: r.map mkS) := rfl
    have ih' : Str.join (Str.ofString "") (mkS y :: r.map mkS) = mkS (y :: r).flatten := ih
    have e2 : ∀ a b : List Nat, mkS a ++ Str.ofString "" ++ mkS b = mkS (a ++ b) := fun a b => by
      have e3 : Str.ofString "" = ⟨#[]⟩ := rfl
      rw [e3]
      show (⟨(a.toArray ++ #[]) ++ b.toArray⟩ : Str) = ⟨(a ++ b).toArray⟩
      simp
    show Str.join (Str.ofString "") (mkS x :: mkS y :: r.map mkS) = mkS (x ++ (y :: r).flatten)
    rw [e, ih', e2]
theorem join_mk (ls : List (List Nat)) : Txt.join (Str.ofString "") (ls.map mkS) = mkS ls.flatten := by
  unfold Txt.join
  rw [StrLaws.glued_eq_join, join_mk']
def pcs : List (List Nat) := [[97],[108,116],[38],[60],[62],[59],[35],[10],[13],[9],[32]]
def pieceL (k : Int) : List Nat := pcs.getD (k.fmod 11).toNat []
def pieceS (k : Int) : PySem.Str := mkS (pieceL k)
def textL (ns : List Int) : List Nat := 97 :: 60 :: ((ns.take 10).map pieceL).flatten
theorem pieceL_cases (k : Int) : pieceL k ∈ pcs ∨ pieceL k = [] := by
  unfold pieceL
  by_cases h : (k.fmod 11).toNat < pcs.length
  · left; rw [List.getD_eq_getElem?_getD, List.getElem?_eq_getElem h]; exact List.getElem_mem h
  · right; rw [List.getD_eq_getElem?_getD, List.getElem?_eq_none (by omega)]; rfl
theorem pieceL_len (k : Int) : (pieceL k).length ≤ 2 := by
  rcases pieceL_cases k with h | h
  · revert h; generalize pieceL k = l; intro h
    have : ∀ l ∈ pcs, l.length ≤ 2 := by decide
    exact this l h
  · rw [h]; simp
theorem flat_len {ls : List (List Nat)} (h : ∀ l ∈ ls, l.length ≤ 2) : ls.flatten.length ≤ 2 * ls.length := by
  induction ls with
  | nil => simp
  | cons a r ih =>
    have h1 := h a (.head _)
    have h2 := ih fun l hl => h l (.tail _ hl)
    simp only [List.flatten_cons, List.length_append, List.length_cons]
    omega
theorem textL_len (ns : List Int) : (textL ns).length ≤ 22 := by
  have h := flat_len (ls := (ns.take 10).map pieceL) (by
    intro l hl
    obtain ⟨k, _, e⟩ := List.mem_map.mp hl
    rw [← e]; exact pieceL_len k)
  rw [List.length_map, List.length_take] at h
  simp only [textL, List.length_cons]
  omega
theorem sum_le {ys : List Str} {b : Nat} (h : ∀ y ∈ ys, y.length ≤ b) : (ys.map (·.length)).sum ≤ b * ys.length := by
  induction ys with
  | nil => simp
  | cons a r ih =>
    have h1 := h a (.head _)
    have h2 := ih fun l hl => h l (.tail _ hl)
    simp only [List.map_cons, List.sum_cons, List.length_cons, Nat.mul_succ]
    omega
theorem head_mk (l : List Nat) : Str.ofString "a<" ++ mkS l = mkS (97 :: 60 :: l) := by
  have e : Str.ofString "a<" = ⟨#[97, 60]⟩ := rfl
  rw [e]
  show (⟨#[97, 60] ++ l.toArray⟩ : Str) = ⟨(97 :: 60 :: l).toArray⟩
  simp
theorem pieces_at {k : Int} : [Str.ofString "a", Str.ofString "lt", Str.ofString "&", Str.ofString "<", Str.ofString ">", Str.ofString ";", Str.ofString "#", Str.ofString "\n", Str.ofString "\r", Str.ofString "\t", Str.ofString " "].getD (k.fmod 11).toNat Str.empty = pieceS k := by
  unfold pieceS pieceL
  have e : [Str.ofString "a", Str.ofString "lt", Str.ofString "&", Str.ofString "<", Str.ofString ">", Str.ofString ";", Str.ofString "#", Str.ofString "\n", Str.ofString "\r", Str.ofString "\t", Str.ofString " "] = pcs.map mkS := rfl
  rw [e, List.getD_eq_getElem?_getD, List.getElem?_map, List.getD_eq_getElem?_getD]
  cases pcs[(k.fmod 11).toNat]? <;> rfl
end Mine
end

-- J0
section
namespace Mine

theorem lines_J0_0 : True := by
  k_with_none
  trivial
theorem lines_J0_1 : True := by
  k_with "call builtin:str.join" => (k_here; (refine join_listW (News.isList (by k_asm) (by k_mem)) (by first | assumption | (show StrsAre (List.toArray _).toList _; assumption)) (by decide) ?_ ?_; rotate_left; intro _ _))
  trivial
set_option maxRecDepth 100000 in
set_option maxHeartbeats 8000000 in
theorem text_c (w : World) (mean : ExcName → Option Value) (mg mb : Str → Option Value) (news : List (Addr × Obj)) (sl : Nat) (vs : List Value) (ns : List Int) 
   {dp un : Nat} {gd : Option (List Code)} {cn : Str} {cs : Scope} {a : Addr} {ccd : Value} {cl : List (Str × Addr)} {outer : List Env} {A₀ : Around} {base h₀ : Heap} {L : Addr} {m : Str → Option Value} {s : Shared} {Q E : Value → Shared → Prop}
   (B : Below A₀ base outer h₀) (F : Fr h₀ L s.heap m) (X : (KF w.params).In h₀) (N : News h₀ L s.heap news) (T : Top QV LO mean mg mb h₀) (hk : cs.kind = .function)
   (hls : base.IsList sl vs.toArray) (hin : IntsAre vs ns) (hle : ns.length ≤ 63)
   (hdp : dp + 8 < recursionLimit) (hun : un + 80 < cLine)
   (hret : ∀ h' tk' t, Fr h₀ L h' m → News h₀ L h' news → Q (.str (mkS (textL ns)) t) { s with heap := h', toks := tk' }) :
    wpAny (model PySem.Challenge.rw_of0105_01.row.prog w) (ktrTop dp un gd cn cs L a ccd cl outer) (call (.ref 780) [.ref sl]) Q E s := by
  have KF : KF w.params = KF w.params := rfl
  revert KF
  k_fill
  intro _
  refine wpAny_call ?_
  k_dflt (refine' code_defC ?k1 ?k2 ?k3 ?k4 ?k5 ?kA ?kF ?kK ?k6 ?k7 ?k8 ?k9 ?kB ?kD ?_ ?c2 ?c3 ?c4; (case kA => exact rfl); (case kF => exact rfl); (case kK => assumption); (case k1 => k_asm); (case k2 => k_asm); (case k3 => k_asm); (case k4 => k_asm); (case k5 => k_asm); (case k6 => k_is); (case k7 => k_is); (case k8 => ktr_room); (case k9 => exact kp_binds (binds := [(Str.ofString "script", .ref sl)]) (X.keeps F.keep) (fun S => by kernel_rfl)); (case kB => exact rfl); (case kD => decide +kernel); (case c2 => exact rfl); (case c3 => exact rfl); (case c4 => exact rfl); k_whole; intro g' L' h' tk' cells' FG' F' N' Y' B' X' T' l1; (try k_lt l1); k_cells Y'; (try simp only [List.cons_append, List.nil_append] at N'); (try dsimp only); (try k_lift B'); (try k_fold))
  have hc9 : ∀ p ∈ news, p.1 ≠ L' + 1 := fun p hp => Nat.ne_of_lt (Nat.lt_succ_of_lt (l1 p hp))
  repeat' (first | (k_unfold; (try dsimp only)) | ((fail_if_success (with_reducible show wpAny _ _ (eval (Expr.ListComp _ _ _ _) _) _ _ _)); (first | walk1 | (dsimp only; walk1))))
  refine LCg.ListComp_U (F₀ := by k_asm) (by with_unfolding_all rfl) (by decide) (by rfl) (by decide) (by rfl) ?_
  repeat' (first | (k_unfold; (try dsimp only)) | ((fail_if_success (with_reducible show LCg.CompSrc _ _ _ _ _ _ _ _ _ _ _ _ _ _)); (first | walk1 | (dsimp only; walk1))))
  (rename IntsAre _ (List.take 10 ns) => hI9)
  refine LCg.CompSrc.ledger (by rfl) (by k_asm) (by k_asm) (by k_mem) (by have e9 := hI9.length; rw [List.size_toArray, PySem.sizeLine_eq, e9, List.length_take]; omega) ?_
  intro gg
  refine' kct_list pieceS hI9 (fun k' t' I' oI' C' oC' D' m' ys' h' tk' E' hk' hC' hx' F' N' off' ne' hm' => ?_) ?_
  · have off0 := off'
    simp only [LCg.Off3] at off'
    k_steps
    refine ⟨_, _, _, rfl, F', N', off0, .inr ⟨_, by k_mem, rfl, _, rfl⟩, rfl, ?_⟩
    exact ⟨_, congrArg (fun z => Value.str z _) pieces_at⟩
  · intro ys' hys' hyl'
    intro D' h' tk' F' N' off'
    dsimp only
    have hst : StrsAre ys' ((ns.take 10).map pieceS) := StrsAre.ofCarried (by rw [List.map_map]; exact hys')
    have eJ : Txt.join (Str.ofString "") (List.map pieceS (List.take 10 ns)) = mkS ((ns.take 10).map pieceL).flatten := by
      rw [← join_mk, List.map_map]; rfl
    have hlen := textL_len ns
    simp only [textL, List.length_cons] at hlen
    k_steps
    case refine_1 =>
      have h9 := sum_le (ys := List.map pieceS (List.take 10 ns)) (b := 2) (by
        intro y hy
        obtain ⟨k, _, e⟩ := List.mem_map.mp hy
        rw [← e]; unfold pieceS; rw [mkS_len]; exact pieceL_len k)
      rw [List.length_map, List.length_take] at h9 ⊢
      omega
    rw [eJ]
    have h2 : (Str.ofString "a<").length = 2 := rfl
    refine PyProof.Rows.add_str (fun t9 k9 => ?_) (by rw [mkS_len, PySem.sizeLine_eq, h2]; omega)
    rw [head_mk]
    k_steps
    (rename News h₀ L _ _ => N9)
    (rename Fr h₀ L _ _ => F9)
    exact hret _ _ _ F9 (fun p hp => N9 p (by first | exact hp | (repeat (first | exact hp | refine List.mem_cons_of_mem _ ?_))))

end Mine
end

-- K1
section
namespace Mine

theorem lines_K1_0 : True := by
  k_with_none
  trivial
open PySem.Calls
def EndL (s : Shared) (h₀ : Heap) (L I : Addr) (oI : Obj) (row : Addr × Obj) (Jn : (Str → Option Value) → List (Addr × Obj) → Prop) (f : Flow) (s₂ : Shared) : Prop :=
  f = .next ∧ ∃ h₂ tk₂ m₂ news₂, s₂ = { s with heap := h₂, toks := tk₂ } ∧ Fr h₀ L h₂ m₂ ∧ News h₀ L h₂ ((I, oI) :: news₂) ∧ row ∈ news₂ ∧ (∀ p ∈ news₂, @Ne Nat p.1 I) ∧ Jn m₂ news₂
section
variable {prog : Program} {w : World} {A : Around} {E : Value → Shared → Prop} {s : Shared} {h₀ : Heap} {L : Addr} {m : Str → Option Value} {env : Env} {news : List (Addr × Obj)}
theorem for_ledger {x : Str} {body : List Stmt} {Q : Flow → Shared → Prop} {l : Addr} {its : Array Value} {k : Nat} (J : Nat → (Str → Option Value) → List (Addr × Obj) → Prop) (hh : A.handled = none) (F : Fr h₀ env.locals s.heap m) (N : News h₀ env.locals s.heap news)
    (hm : (l, listOf its k) ∈ news) (h0 : J 0 m news)
    (step : ∀ i v I oI m₁ news₁ h₁ tk₁, i < its.size → its[i]? = some v → J i m₁ news₁ → (∀ p ∈ news₁, @Ne Nat p.1 I) → Fr h₀ env.locals h₁ (fun y => if y = x then some v else m₁ y) → News h₀ env.locals h₁ ((I, oI) :: news₁) →
      wpAny (model prog w) A (execs body env) (EndL s h₀ env.locals I oI (l, listOf its k) (J (i + 1))) E { s with heap := h₁, toks := tk₁ })
    (fin : ∀ h' tk m' news', Fr h₀ env.locals h' m' → News h₀ env.locals h' news' → J its.size m' news' → Q .next { s with heap := h', toks := tk }) :
    wpAny (model prog w) A (pyIter (.ref l)) (fun it s₂ => LoopAtV prog w A h₀ env x body Q E it s₂) E s := by
  have el := (N _ hm).1
  have hl : s.heap.IsList l its := ⟨_, el, rfl, _, rfl⟩
  have hlt : l < s.heap.objs.size := Heap.lt_size el
  refine wpAny_pyIter_list hl ?_
  have up : ∀ b o, s.heap.get? b = some o → (s.heap.push { cls := .type "list_iterator", data := .fields #[.ref l, .int 0 0] }).get? b = some o := fun b o e => Heap.get?_push_of_some _ e
  have hI₀ : h₀.get? s.heap.objs.size = none := next_is_new F
  refine ⟨s.heap.objs.size, [s.heap.objs.size, l], [s.heap.objs.size], its.size, _, _, m, news, (fun i m nw => J i m nw ∧ (l, listOf its k) ∈ nw), rfl, Walks.list hh s.heap.objs.size l (Nat.ne_of_lt hlt) its, ?_, ?_, ?_, ⟨⟨_, Heap.get?_push_size _ rfl, rfl, rfl⟩, hl.push _⟩, F.keeps up, N.grown up, ⟨h0, hm⟩, ?_, ?_⟩
  · intro h
    rcases List.mem_cons.mp h with h | h
    · exact Nat.ne_of_lt F.ns.lt h
    · exact (N _ hm).2.1 (List.mem_singleton.mp h).symm
  · intro b hb; rw [List.mem_singleton.mp hb]; exact hI₀
  · intro p hp h; exact Nat.ne_of_lt (Heap.lt_size (N p hp).1) (List.mem_singleton.mp h)
  · rintro i v m₁ news₁ s₁ own ⟨h, tk, rfl⟩ hi hP ⟨hJ, hm₁⟩ hnw ho1 ho2 ho3 hst F₁ N₁
    obtain ⟨oI, eI, _⟩ := hst.1
    have mI : (s.heap.objs.size, oI) ∈ own := ho3 _ (.head _) hI₀ oI eI
    have N₁' : News h₀ env.locals h ((s.heap.objs.size, oI) :: news₁) := fun p hp => by
      rcases List.mem_cons.mp hp with rfl | hp
      · exact N₁ _ (List.mem_append_left _ mI)
      · exact N₁ _ (List.mem_append_right _ hp)
    refine wpAny_mono (step i v s.heap.objs.size oI m₁ news₁ h tk hi hP hJ (fun p hp e => hnw p hp (List.mem_singleton.mpr e)) F₁ N₁') (fun f s₂ hq => ?_) fun _ _ e => e
    obtain ⟨rfl, h₂, tk₂, m₂, news₂, rfl, F₂, N₂, hm₂, hne₂, hJ₂⟩ := hq
    refine LoopStepV.next ⟨rfl, h₂, tk₂, m₂, news₂, rfl, F₂, ?_, fun p hp h => hne₂ p hp (List.mem_singleton.mp h), hJ₂, hm₂⟩
    intro p hp
    rcases List.mem_append.mp hp with hp | hp
    · have e := ho2 p hp
      rcases List.mem_cons.mp (ho1 p hp) with q | q
      · obtain ⟨a, o⟩ := p
        have q' : a = s.heap.objs.size := q
        subst q'
        have : o = oI := Option.some.inj (e.symm.trans eI)
        subst this
        exact N₂ _ (.head _)
      · obtain ⟨a, o⟩ := p
        have q' : a = l := List.mem_singleton.mp q
        subst q'
        have z := (N₁' _ (.tail _ hm₁)).1
        have : o = listOf its k := Option.some.inj (e.symm.trans z)
        subst this
        exact N₂ _ (.tail _ hm₂)
    · exact N₂ _ (.tail _ hp)
  · rintro h' tk m' news' F' N' _ ⟨hJ, _⟩
    exact fin h' tk m' news' F' N' hJ
def SrcS (prog : Program) (w : World) (A : Around) (h₀ : Heap) (L : Addr) (m : Str → Option Value) (env : Env) (elt : PySem.Expr) (x : Str) (scope : Scope) (cl : List (Str × Addr)) (Q : Value → Shared → Prop) (xv : Value) (s₁ : Shared) : Prop :=
  ∃ y t news, xv = .str y t ∧ A.handled = none ∧ Fr h₀ L s₁.heap m ∧ News h₀ L s₁.heap news ∧ y.cps.size ≤ sizeLine ∧
    ∀ s₂ : Shared, (∃ h, s₂ = { s₁ with heap := h }) → LCg.CompRest prog w A h₀ L m env elt x scope cl s₂ (fun _ => True) (SignAt y) (LCg.FinE h₀ L m s₂ Q) y.cps.size 0 [] news
theorem strIter_st {I : Addr} {ty : String} {y : Str} {t : Tok} : ∀ i (h h' : Heap) (o : Obj) (nw : List (Addr × Obj)), h.IsStrIter I ty y t i → h.get? I = some o → h'.get? I = some o → (∀ b o, h₀.get? b = some o → h'.get? b = some o) → News h₀ L h' nw → True → h'.IsStrIter I ty y t i :=
  fun i h h' o nw st e e' _ _ _ => by
    obtain ⟨o', q, r⟩ := st
    rw [e] at q; cases q
    exact ⟨o, e', r⟩
theorem ListComp_S {elt iter : PySem.Expr} {x : Str} {px : Pos} {scope : Scope} {cl : List (Str × Addr)} {pos : Pos} {Q : Value → Shared → Prop} (_F₀ : Fr h₀ L s.heap m)
    (hclos : closureFor scope env = pure cl) (hcell : ∀ y ∈ scope.names, y.2 ≠ .cell) (hkind : scope.kind = .function)
    (hnames : ∀ y ∈ scope.names, y.2 = .local → scope.names.lookup y.1 = some .local) (hx : scope.names.lookup x = some .local)
    (h : wpAny (model prog w) A (eval iter env) (SrcS prog w A h₀ L m env elt x scope cl Q) E s)
    (hs : ∀ x, foldedSetIterable iter env x = pure x := by intro _; rfl) :
    wpAny (model prog w) A (eval (.ListComp elt [⟨.Name x px, iter, [], 0⟩] scope pos) env) Q E s := by
  rw [eval_ListComp]
  refine wpAny_comprehension_free (use := none) rfl hs hclos hkind hnames (wpAny_mono h (fun xv s₁ h₁ => ?_) fun _ _ e => e)
  obtain ⟨y, t, news, rfl, hh, F, N, hsz, R⟩ := h₁
  have fin : ∀ (o : Obj) (D C : Addr) (h : Heap) (tk : Nat) (m' : Str → Option Value) (ys : List Value) (news' : List (Addr × Obj)), Fr h₀ L h m → News h₀ L h ((D, LCg.lst ys) :: news') → LCg.Off1 D news' → h.Ns C m' → h₀.get? C = none → h₀.get? D = none → C ≠ L → D ≠ L → C ≠ D → (∀ p ∈ news', p.1 ≠ C) → LCg.FinE h₀ L m { s₁ with heap := s₁.heap.push o } Q ys news' →
      compPost (model prog w) A E none Q (.ref D) C (.ok .next) { s₁ with heap := h, toks := tk } := by
    intro o D C h tk m' ys news' F' N' o1 hn hC₀ hD₀ hCL hDL hCD offC fin
    refine ⟨m', hn, fun h'' hs'' => fin D h'' tk (F'.change hs'' hCL hC₀) (fun p hp => ?_) o1⟩
    refine ⟨hs''.extBut _ _ ?_ (N' p hp).1, (N' p hp).2⟩
    rcases List.mem_cons.mp hp with rfl | hp
    · exact Ne.symm hCD
    · exact offC p hp
  have up : ∀ o : Obj, ∀ b o', s₁.heap.get? b = some o' → (s₁.heap.push o).get? b = some o' := fun o b o' e => Heap.get?_push_of_some _ e
  have lt : ∀ o : Obj, ∀ b ∈ [s₁.heap.objs.size], b < (s₁.heap.push o).objs.size := fun o b hb => by
    rw [List.mem_singleton.mp hb, Heap.size_push]; exact Nat.lt_succ_self _
  cases ha : y.cps.all (· < 128)
  · refine wpAny_pyIter_wide ha ?_
    exact LCg.block_U (Walks.strWide hh _ y t) hsz (fun i h st => let ⟨o, e, _⟩ := st; ⟨o, e⟩) strIter_st hcell hkind hx ⟨_, Heap.get?_push_size _ rfl, rfl, rfl⟩ (lt _) (F.keeps (up _)) (N.grown (up _)) (Nat.ne_of_lt F.ns.lt) (next_is_new F) (fun p hp => Nat.ne_of_lt (Heap.lt_size (N p hp).1)) trivial (R _ ⟨_, rfl⟩) (fin _)
  · refine wpAny_pyIter_ascii ha ?_
    exact LCg.block_U (Walks.strAscii hh _ y t) hsz (fun i h st => let ⟨o, e, _⟩ := st; ⟨o, e⟩) strIter_st hcell hkind hx ⟨_, Heap.get?_push_size _ rfl, rfl, rfl⟩ (lt _) (F.keeps (up _)) (N.grown (up _)) (Nat.ne_of_lt F.ns.lt) (next_is_new F) (fun p hp => Nat.ne_of_lt (Heap.lt_size (N p hp).1)) trivial (R _ ⟨_, rfl⟩) (fin _)
theorem signs_rest {elt : PySem.Expr} {x : Str} {scope : Scope} {cl : List (Str × Addr)} {Fin : List Value → List (Addr × Obj) → Prop} {y : Str} (g : Nat → Str)
    (turn : ∀ c t I oI C oC D m₂ ys h tk (E' : Value → Shared → Prop), c ∈ y.cps.toList → LCg.NsObj oC m₂ → m₂ x = some (.str ⟨#[c]⟩ t) → Fr h₀ L h m → News h₀ L h ((I, oI) :: (C, oC) :: (D, LCg.lst ys) :: news) → LCg.Off3 I C D news → ((@Ne Nat I C) ∧ (@Ne Nat I D) ∧ (@Ne Nat C D)) →
      wpAny (model prog w) A (eval elt (compEnvC scope cl C env)) (LCg.CompEnd h₀ L m { s with heap := h, toks := tk } I oI C oC D (LCg.lst ys) (fun _ => True) (fun v news' => news' = news ∧ ∃ t, v = .str (g c) t)) E' { s with heap := h, toks := tk })
    (fin : ∀ ys, StrsAre ys (y.cps.toList.map g) → Fin ys news) : LCg.CompRest prog w A h₀ L m env elt x scope cl s (fun _ => True) (SignAt y) Fin y.cps.size 0 [] news := by
  have key : ∀ (j i : Nat) (ys : List Value), i + j = y.cps.size → StrsAre ys ((y.cps.toList.take i).map g) → LCg.CompRest prog w A h₀ L m env elt x scope cl s (fun _ => True) (SignAt y) Fin j i ys news := by
    intro j
    induction j with
    | zero =>
      intro i ys hi hy
      have e : y.cps.toList.take i = y.cps.toList := List.take_of_length_le (by simp; omega)
      rw [e] at hy
      exact LCg.CompRest.zero (fin ys hy)
    | succ j ih =>
      intro i ys hi hy
      refine LCg.CompRest.succ ?_
      intro v I oI C oC D m₂ h tk E' hv hC hx F N off ne
      obtain ⟨c, u, hc, rfl⟩ := hv
      have hc' : y.cps.toList[i]? = some c := by simpa using hc
      refine wpAny_mono (turn c u I oI C oC D m₂ ys h tk E' (List.mem_of_getElem? hc') hC hx F N off ne) (fun z s₂ hq => ?_) fun _ _ e => e
      obtain ⟨h', tk', nw, e, F', N', off', hS, rfl, t', hy'⟩ := hq
      refine ⟨h', tk', nw, e, F', N', off', hS, ?_⟩
      rw [hy']
      refine ih (i + 1) _ (by omega) ?_
      rw [List.take_add_one, hc']
      simpa using kct_snoc hy
  exact key _ 0 [] (by omega) (by simpa using StrsAre.nil)
theorem get2_S {d : Addr} {D : List (PyData × PyData)} {x : Str} {t u : Tok} {y : Str} {Q : Value → Shared → Prop} (T : StrTab prog w s.heap d D)
    (hl : PySem.Spec.lookup (.str x) D = some (.str y) ∨ (PySem.Spec.lookup (.str x) D = none ∧ y = x)) (h : ∀ t', Q (.str y t') { s with toks := s.toks + 1 }) :
    wpAny (model prog w) A (call (.builtin "dict.get") [.ref d, .str x t, .str x u]) Q E s := by
  rcases hl with hl | ⟨hl, rfl⟩
  · refine kt_get2_thereS T hl (PyProof.V.Flat.str x u) fun v hv => ?_
    obtain ⟨t', rfl⟩ := PyProof.V.Flat.str_inv hv
    exact h t'
  · refine kt_get2_noneS T hl (PyProof.V.Flat.str y u) fun v hv => ?_
    obtain ⟨t', rfl⟩ := PyProof.V.Flat.str_inv hv
    exact h t'
end
def BodyAt (K : Frag) (f : Addr) (n : Nat) (b : List Stmt) (sc : Scope) : Prop :=
  ∃ oc od osl name qual params body dV kV doc pm an cdv ct, K.lookup f = some ⟨oc, od, .func (fnOf name qual params body sc dV kV doc pm an cdv ct), osl⟩ ∧ b = body.drop n
theorem BodyAt.uniq {K : Frag} {f : Addr} {n : Nat} {b : List Stmt} {sc : Scope} (h : BodyAt K f n b sc) {oc : Value} {od : Option Addr} {osl : Array (Option Value)} {name qual : Str} {params : Arguments} {body : List Stmt} {sc' : Scope} {dV kV doc pm cdv ct : Value} {an : Option Addr}
    (h' : K.lookup f = some ⟨oc, od, .func (fnOf name qual params body sc' dV kV doc pm an cdv ct), osl⟩) : b = body.drop n ∧ sc = sc' := by
  obtain ⟨_, _, _, _, _, _, _, _, _, _, _, _, _, _, h, hb⟩ := h
  rw [h] at h'
  injection h' with h'
  injection h' with _ _ h' _
  injection h' with h'
  injection h' with _ _ _ hb' hs _ _ _ _ _ _ _ _ _ _
  injection hb' with hb'
  exact ⟨by rw [hb, hb'], hs⟩

end Mine
end

-- K3
section
namespace Mine

theorem lines_K3_0 : True := by
  k_with_none
  trivial
open PySem.Calls
def EndS (s : Shared) (h₀ : Heap) (L I : Addr) (oI : Obj) (Jn : (Str → Option Value) → List (Addr × Obj) → Prop) (f : Flow) (s₂ : Shared) : Prop :=
  f = .next ∧ ∃ h₂ tk₂ m₂ news₂, s₂ = { s with heap := h₂, toks := tk₂ } ∧ 0 < tk₂ ∧ Fr h₀ L h₂ m₂ ∧ News h₀ L h₂ ((I, oI) :: news₂) ∧ (∀ p ∈ news₂, @Ne Nat p.1 I) ∧ Jn m₂ news₂
section
variable {prog : Program} {w : World} {A : Around} {E : Value → Shared → Prop} {s : Shared} {h₀ : Heap} {L : Addr} {m : Str → Option Value} {env : Env} {news : List (Addr × Obj)}
theorem add_tok {x y : Str} {t u : Tok} {Q : Value → Shared → Prop} (hx : (x.length == 0) = false) (hy : (y.length == 0) = false) (hsz : x.length + y.length ≤ sizeLine) (h : Q (.str (x ++ y) s.toks) { s with toks := s.toks + 1 }) :
    wpAny (model prog w) A (binaryOp .Add (.str x t) (.str y u)) Q E s := by
  refine P.add_str ?_
  rw [hx, hy]
  exact ⟨by rw [Str.length_append]; exact hsz, h⟩
theorem for_signs {y x : Str} {k : Nat} {p px pos : Pos} {body : List Stmt} {Q : Flow → Shared → Prop} (ha : y.cps.all (· < 128) = true) (hx : env.kindOf x = some .local)
    (hp : (env.scope.kind == .class || (env.scope.kind == .module && env.locals != env.globals)) = false) (hh : A.handled = none) (J : Nat → (Str → Option Value) → List (Addr × Obj) → Prop)
    (F : Fr h₀ env.locals s.heap m) (N : News h₀ env.locals s.heap news) (h0 : J 0 m news)
    (step : ∀ i c u I oI m₁ news₁ h₁ tk₁, y.cps[i]? = some c → 0 < u → u < tk₁ → J i m₁ news₁ → (∀ p ∈ news₁, @Ne Nat p.1 I) → Fr h₀ env.locals h₁ (fun z => if z = x then some (.str ⟨#[c]⟩ u) else m₁ z) → News h₀ env.locals h₁ ((I, oI) :: news₁) →
      wpAny (model prog w) A (execs body env) (EndS s h₀ env.locals I oI (J (i + 1))) E { s with heap := h₁, toks := tk₁ })
    (fin : ∀ h' tk m' news', 0 < tk → Fr h₀ env.locals h' m' → News h₀ env.locals h' news' → J y.cps.size m' news' → Q .next { s with heap := h', toks := tk })
    (hE : PassesOwn (model prog w) A env E := by passes_own) :
    wpAny (model prog w) A (exec (.For (.Name x px) (.Constant (.str y) k p) body [] pos) env) Q E s := by
  refine wpAny_For (Constant_str (wpAny_pyIter_ascii ha ?_)) (by intro _; rfl)
  have hI₀ : h₀.get? s.heap.objs.size = none := next_is_new F
  have hLI : env.locals ≠ s.heap.objs.size := Nat.ne_of_lt F.ns.lt
  dsimp only
  have up : ∀ b o, s.heap.get? b = some o → (s.heap.push { cls := .type "str_ascii_iterator", data := .fields #[.str y s.toks, .int 0 0] }).get? b = some o := fun b o e => Heap.get?_push_of_some _ e
  refine codeAny_forLoop
    (fun k s' => ∃ h' tk m' news' i, s' = { s with heap := h', toks := tk } ∧ h'.IsStrIter s.heap.objs.size "str_ascii_iterator" y s.toks i ∧ 0 < tk ∧ Fr h₀ env.locals h' m' ∧ News h₀ env.locals h' news' ∧ (∀ p ∈ news', @Ne Nat p.1 s.heap.objs.size) ∧ J i m' news' ∧ i ≤ y.cps.size ∧ k = y.cps.size + 1 - i) ?_ (y.cps.size + 1)
    ⟨_, _, m, news, 0, rfl, ⟨_, Heap.get?_push_size _ rfl, rfl, rfl⟩, Nat.succ_pos _, F.keeps up, N.grown up, fun p hp => Nat.ne_of_lt (Heap.lt_size (N p hp).1), h0, Nat.zero_le _, rfl⟩
  rintro k s' ⟨h', tk, m', news', i, rfl, hst, hpos, F', N', hnw, hJ, hi, rfl⟩
  have next : ∀ h₁ : Heap, (∀ b o, b ≠ s.heap.objs.size → h'.get? b = some o → h₁.get? b = some o) → Fr h₀ env.locals h₁ m' ∧ News h₀ env.locals h₁ news' := fun h₁ hk₁ =>
    ⟨⟨F'.ns.at' fun o e => hk₁ _ o hLI e, fun b o e => hk₁ b o (fun q => by rw [q, hI₀] at e; cases e) (F'.keep b o e), F'.above⟩, fun p hp => ⟨hk₁ _ _ (hnw p hp) (N' p hp).1, (N' p hp).2⟩⟩
  by_cases hlt : i < y.cps.size
  · refine wpAny_pyNext_ascii_item hst (c := y.cps[i]) (by simp [hlt]) fun h₁ hit₁ hs₁ => ?_
    obtain ⟨F₁, N₁⟩ := next h₁ fun b o hb e => hs₁.extBut b o hb e
    refine wpAny_assign_Name (wpAny_storeName_local hx F₁.ns (fun h₂ hn₂ hs₂ => ?_) hp)
    have F₂ := F₁.set hn₂ hs₂
    have N₂ := N₁.set hs₂
    have hit₂ : h₂.IsStrIter s.heap.objs.size "str_ascii_iterator" y s.toks (i + 1) := by
      obtain ⟨o, e, r⟩ := hit₁
      exact ⟨o, hs₂.extBut _ o (Ne.symm hLI) e, r⟩
    obtain ⟨oI, eI, rI⟩ := id hit₂
    have N₃ : News h₀ env.locals h₂ ((s.heap.objs.size, oI) :: news') := fun p hp => by
      rcases List.mem_cons.mp hp with rfl | hp
      · exact ⟨eI, Ne.symm hLI, hI₀⟩
      · exact N₂ p hp
    refine wpAny_passesOwn hE (wpAny_mono (step i y.cps[i] tk s.heap.objs.size oI m' news' h₂ _ (by simp [hlt]) hpos (by show tk < tk + 1 + 1; omega) hJ hnw F₂ N₃) (fun f s₃ h₃ => ?_) fun _ _ e => e)
    obtain ⟨rfl, h₃, tk₃, m₃, news₃, rfl, hp₃, F₃, N₄, hne₃, hJ₃⟩ := h₃
    refine ⟨y.cps.size + 1 - (i + 1), by omega, h₃, tk₃, m₃, news₃, i + 1, rfl, ⟨oI, (N₄ _ (.head _)).1, rI⟩, hp₃, F₃, fun p hp => N₄ p (.tail _ hp), hne₃, hJ₃, hlt, rfl⟩
  · have hin : i = y.cps.size := by omega
    subst hin
    refine wpAny_pyNext_ascii_end hh hst (by simp) fun h₁ he₁ => wpAny_execs_nil ?_
    obtain ⟨F₁, N₁⟩ := next h₁ fun b o hb e => he₁ b o hb e
    exact fin h₁ tk m' news' hpos F₁ N₁ hJ
end

end Mine
end

-- P3
section
namespace Mine
def splL (c : Nat) : List Nat → List (List Nat)
  | [] => [[]]
  | d :: r => if d = c then [] :: splL c r else (d :: (splL c r).headD []) :: (splL c r).tail
theorem splL_ne (c : Nat) : ∀ l, splL c l ≠ []
  | [] => by simp [splL]
  | d :: r => by unfold splL; split <;> simp
theorem splL_app (c : Nat) : ∀ p r : List Nat, c ∉ p → splL c (p ++ c :: r) = p :: splL c r
  | [], r, _ => by simp [splL]
  | d :: p, r, h => by
    have h1 : d ≠ c := fun e => h (e ▸ .head _)
    have ih := splL_app c p r fun q => h (.tail _ q)
    show (if d = c then _ else (d :: (splL c (p ++ c :: r)).headD []) :: (splL c (p ++ c :: r)).tail) = _
    rw [if_neg h1, ih]
    rfl
theorem splL_free (c : Nat) : ∀ p : List Nat, c ∉ p → splL c p = [p]
  | [], _ => rfl
  | d :: p, h => by
    have h1 : d ≠ c := fun e => h (e ▸ .head _)
    have ih := splL_free c p fun q => h (.tail _ q)
    show (if d = c then _ else (d :: (splL c p).headD []) :: (splL c p).tail) = _
    rw [if_neg h1, ih]
    rfl
theorem splL_join (c : Nat) : ∀ ps : List Str, ps ≠ [] → (∀ p ∈ ps, c ∉ p.cps.toList) → splL c (Str.join ⟨#[c]⟩ ps).cps.toList = ps.map fun p => p.cps.toList
  | [], h, _ => absurd rfl h
  | [x], _, h => by
    show splL c x.cps.toList = [x.cps.toList]
    exact splL_free c _ (h x (.head _))
  | x :: y :: r, _, h => by
    have ih := splL_join c (y :: r) (by simp) fun p hp => h p (.tail _ hp)
    have e1 : (Str.join ⟨#[c]⟩ (x :: y :: r)).cps.toList = x.cps.toList ++ c :: (Str.join ⟨#[c]⟩ (y :: r)).cps.toList := by
      show ((x.cps ++ #[c]) ++ (Str.join ⟨#[c]⟩ (y :: r)).cps).toList = _
      simp
    rw [e1, splL_app c _ _ (h x (.head _)), ih]
    rfl
theorem split_ne_nil (x : Str) (c : Nat) : Txt.split x ⟨#[c]⟩ ≠ [] := by
  intro h
  have hj := StrLaws.join_split x ⟨#[c]⟩
  rw [h] at hj
  have e : x = ⟨#[]⟩ := hj.symm
  subst e
  have e : Txt.split ⟨#[]⟩ ⟨#[c]⟩ = [⟨#[]⟩] := by
    unfold Txt.split
    rw [if_pos (by rfl)]
  rw [e] at h
  cases h
theorem split_mk (c : Nat) (l : List Nat) : Txt.split (mkS l) ⟨#[c]⟩ = (splL c l).map mkS := by
  have h := splL_join c (Txt.split (mkS l) ⟨#[c]⟩) (split_ne_nil _ _) (StrLaws.split_free (mkS l) c)
  rw [StrLaws.join_split] at h
  have h' : splL c l = (Txt.split (mkS l) ⟨#[c]⟩).map fun p => p.cps.toList := h
  rw [h', List.map_map]
  conv => lhs; rw [← List.map_id (Txt.split (mkS l) ⟨#[c]⟩)]
  exact List.map_congr_left fun x _ => (mkS_of x).symm
theorem splL_head (c : Nat) : ∀ l : List Nat, (splL c l).headD [] = l.takeWhile (fun d => decide (d ≠ c))
  | [] => rfl
  | d :: r => by
    unfold splL
    by_cases h : d = c
    · rw [if_pos h]; simp [h]
    · rw [if_neg h]
      have ih := splL_head c r
      simp only [List.headD_cons, List.takeWhile_cons, h, ne_eq, not_false_eq_true, decide_true, if_true]
      rw [ih]
def stepL (st : List (List Nat) × List Nat) (c : Nat) : List (List Nat) × List Nat := if Unicode.isSpace c = true then (if st.2 = [] then st else (st.1 ++ [st.2], [])) else (st.1, st.2 ++ [c])
def finL (st : List (List Nat) × List Nat) : List (List Nat) := if st.2 = [] then st.1 else st.1 ++ [st.2]
def wordsL (l : List Nat) : List (List Nat) := finL (l.foldl stepL ([], []))
def stS (st : List (List Nat) × List Nat) : KWd.St := (st.1.map mkS, mkS st.2)
theorem mkS_nil : mkS [] = Str.empty := rfl
theorem mkS_app (a b : List Nat) : mkS (a ++ b) = mkS a ++ mkS b := by
  show (⟨(a ++ b).toArray⟩ : Str) = ⟨a.toArray ++ b.toArray⟩
  simp
theorem step_stS (st : List (List Nat) × List Nat) (c : Nat) : KWd.step (stS st) c = stS (stepL st c) := by
  unfold KWd.step stepL stS
  by_cases h : Unicode.isSpace c = true
  · rw [if_pos h, if_pos h, mkS_len]
    by_cases h2 : st.2 = []
    · rw [if_pos (by rw [h2]; rfl), if_pos h2]
    · rw [if_neg (fun e => h2 (List.eq_nil_of_length_eq_zero e)), if_neg h2]
      simp [mkS_nil]
  · rw [if_neg h, if_neg h]
    show (_, mkS st.2 ++ mkS [c]) = _
    rw [← mkS_app]
theorem fold_stS : ∀ (l : List Nat) (st : List (List Nat) × List Nat), l.foldl KWd.step (stS st) = stS (l.foldl stepL st)
  | [], _ => rfl
  | c :: r, st => by rw [List.foldl_cons, List.foldl_cons, step_stS]; exact fold_stS r _
theorem words_mk (l : List Nat) : Txt.words (mkS l) = (wordsL l).map mkS := by
  rw [KWd.words_scan]
  unfold KWd.scan
  have e := fold_stS l ([], [])
  have e0 : stS ([], []) = (([], Str.empty) : KWd.St) := rfl
  rw [e0] at e
  rw [mkS_cps, e]
  unfold KWd.fin wordsL finL stS
  generalize l.foldl stepL ([], []) = st
  rw [mkS_len]
  by_cases h2 : st.2 = []
  · rw [if_pos (by rw [h2]; rfl), if_pos h2]
  · rw [if_neg (fun e => h2 (List.eq_nil_of_length_eq_zero e)), if_neg h2]
    simp
end Mine
end

-- K4
section
namespace Mine

theorem lines_K4_0 : True := by
  k_with_none
  trivial
abbrev plM (m0 : Str → Option Value) (tk ls : Nat) (ln kp sg : Option Value) : Str → Option Value := fun y =>
  if y = Str.ofString "kept" then kp else if y = Str.ofString "sign" then sg else if y = Str.ofString "line" then ln else if y = Str.ofString "tokens" then some (.ref tk) else if y = Str.ofString "lines" then some (.ref ls) else m0 y
abbrev PlOff (m0 : Str → Option Value) (tk ls : Nat) (m : Str → Option Value) : Prop :=
  ∀ y, y ≠ Str.ofString "kept" → y ≠ Str.ofString "sign" → y ≠ Str.ofString "line" → m y = if y = Str.ofString "tokens" then some (.ref tk) else if y = Str.ofString "lines" then some (.ref ls) else m0 y
theorem plM_of {m0 : Str → Option Value} {tk ls : Nat} {m : Str → Option Value} (h : PlOff m0 tk ls m) : m = plM m0 tk ls (m (Str.ofString "line")) (m (Str.ofString "kept")) (m (Str.ofString "sign")) := by
  funext y
  by_cases h1 : y = Str.ofString "kept"
  · show m y = if y = Str.ofString "kept" then _ else _
    rw [if_pos h1, h1]
  by_cases h2 : y = Str.ofString "sign"
  · show m y = if y = Str.ofString "kept" then _ else if y = Str.ofString "sign" then _ else _
    rw [if_neg h1, if_pos h2, h2]
  by_cases h3 : y = Str.ofString "line"
  · show m y = if y = Str.ofString "kept" then _ else if y = Str.ofString "sign" then _ else if y = Str.ofString "line" then _ else _
    rw [if_neg h1, if_neg h2, if_pos h3, h3]
  show m y = if y = Str.ofString "kept" then _ else if y = Str.ofString "sign" then _ else if y = Str.ofString "line" then _ else _
  rw [if_neg h1, if_neg h2, if_neg h3]
  exact h y h1 h2 h3
def spaced (K : List Nat) : Nat → List Nat
  | 0 => K
  | 1 => rep 38 [32, 38, 32] K
  | 2 => rep 59 [32, 59, 32] (rep 38 [32, 38, 32] K)
  | 3 => rep 60 [32, 60, 32] (rep 59 [32, 59, 32] (rep 38 [32, 38, 32] K))
  | _ => rep 62 [32, 62, 32] (rep 60 [32, 60, 32] (rep 59 [32, 59, 32] (rep 38 [32, 38, 32] K)))
def lineW (ln : List Nat) : List (List Nat) := wordsL (spaced (ln.takeWhile fun d => decide (d ≠ 35)) 4)
theorem at_strs {l' : List (Str × Tok)} {lns : List (List Nat)} {i : Nat} {v : Value} (hl' : l'.map (·.1) = lns.map mkS) (hv : (strValues l').toArray[i]? = some v) : ∃ x t, lns[i]? = some x ∧ v = .str (mkS x) t := by
  have h1 : (strValues l')[i]? = some v := by simpa using hv
  unfold strValues at h1
  rw [List.getElem?_map] at h1
  have h2 : (l'.map (·.1))[i]? = (lns.map mkS)[i]? := by rw [hl']
  rw [List.getElem?_map, List.getElem?_map] at h2
  cases e : l'[i]? with
  | none => rw [e] at h1; cases h1
  | some p =>
    rw [e] at h1 h2
    cases e2 : lns[i]? with
    | none => rw [e2] at h2; cases h2
    | some x =>
      rw [e2] at h2
      have h3 : p.1 = mkS x := Option.some.inj h2
      have h4 : Value.str p.1 p.2 = v := Option.some.inj h1
      exact ⟨x, p.2, rfl, by rw [← h4, h3]⟩
theorem lines_K4_1 : True := by
  k_with "call builtin:str.split" => (k_here; first | (refine KSpl.split1 (by k_asm) (by k_asm) (by decide) ?_ (by (rw [mkS_len, PySem.sizeLine_eq]; omega)); (intro _ _ _ _ _ _ _ _ l1); (try k_lt l1)) | (refine KSpl.split0 (by k_asm) (by k_asm) ?_ (by (rw [mkS_len, PySem.sizeLine_eq]; omega)); (intro _ _ _ _ _ _ _ _ l1); (try k_lt l1)))
  trivial
theorem cut_eq {l₂ : List (Str × Tok)} {x : List Nat} {y : Str} (e : l₂.map (·.1) = Txt.split (mkS x) (Str.ofString "#")) (h : (l₂.map (·.1))[Int.toNat 0]? = some y) : y = mkS (x.takeWhile fun d => decide (d ≠ 35)) := by
  have e35 : Str.ofString "#" = ⟨#[35]⟩ := rfl
  rw [e, e35, split_mk] at h
  rw [← splL_head 35 x]
  cases h9 : splL 35 x with
  | nil => exact absurd h9 (splL_ne 35 x)
  | cons a r =>
    rw [h9] at h
    have : some (mkS a) = some y := h
    rw [← Option.some.inj this]; rfl
theorem hash_in {l : List Nat} {b : Bool} (h : (Builtin.Str.occurrences (mkS l) (Str.ofString "#") 0 (mkS l).length 1).isEmpty = b) : (if 35 ∈ l then (1 : Int) else 0) = if b = true then 0 else 1 := by
  have e35 : Str.ofString "#" = ⟨#[35]⟩ := rfl
  rw [e35, empty_one, mkS_cps] at h
  by_cases q : 35 ∈ l
  · rw [if_pos q]; subst h; simp [q]
  · rw [if_neg q]; subst h; simp [q]
theorem tw_len (x : List Nat) : (x.takeWhile fun d => decide (d ≠ 35)).length ≤ x.length := (List.takeWhile_prefix _).length_le
theorem spaced_len {K : List Nat} (h : K.length ≤ 110) (j : Nat) : (spaced K j).length ≤ 8910 := by
  have r3 : ∀ (c : Nat) (l : List Nat) (n : Nat), l.length ≤ n → (rep c [32, c, 32] l).length ≤ 3 * n := fun c l n hl => Nat.le_trans (rep_len (k := 3) (by simp) (by omega) l) (Nat.mul_le_mul_left 3 hl)
  have h1 := r3 38 K 110 h
  have h2 := r3 59 _ _ h1
  have h3 := r3 60 _ _ h2
  have h4 := r3 62 _ _ h3
  unfold spaced
  split <;> omega
theorem sp_is : Str.ofString " " = mkS [32] := by decide +kernel
theorem one_is (c : Nat) : (⟨#[c]⟩ : Str) = mkS [c] := rfl
section
variable {prog : Program} {w : World} {A : Around} {E : Value → Shared → Prop} {s : Shared}
theorem add_mk {a b : List Nat} {t u : Tok} {Q : Value → Shared → Prop} (ha : a ≠ []) (hb : b ≠ []) (hl : a.length + b.length ≤ 100) (h : Q (.str (mkS (a ++ b)) s.toks) { s with toks := s.toks + 1 }) :
    wpAny (model prog w) A (binaryOp .Add (.str (mkS a) t) (.str (mkS b) u)) Q E s := by
  have z : ∀ l : List Nat, l ≠ [] → ((mkS l).length == 0) = false := fun l hl => by
    rw [mkS_len]
    exact beq_eq_false_iff_ne.mpr fun e => hl (List.eq_nil_of_length_eq_zero e)
  refine add_tok (z a ha) (z b hb) (by rw [mkS_len, mkS_len, PySem.sizeLine_eq]; omega) ?_
  rw [← mkS_app]
  exact h
theorem add_sp1 {c : Nat} {t u : Tok} {Q : Value → Shared → Prop} (h : Q (.str (mkS [32, c]) s.toks) { s with toks := s.toks + 1 }) :
    wpAny (model prog w) A (binaryOp .Add (.str (Str.ofString " ") t) (.str ⟨#[c]⟩ u)) Q E s := by
  rw [sp_is, one_is]
  exact add_mk (by simp) (by simp) (by simp) h
theorem add_sp2 {c : Nat} {t u : Tok} {Q : Value → Shared → Prop} (h : Q (.str (mkS [32, c, 32]) s.toks) { s with toks := s.toks + 1 }) :
    wpAny (model prog w) A (binaryOp .Add (.str (mkS [32, c]) t) (.str (Str.ofString " ") u)) Q E s := by
  rw [sp_is]
  exact add_mk (by simp) (by simp) (by simp) h
end
theorem ne_sp (c : Nat) : ((⟨#[c]⟩ : Str) == mkS [32, c, 32]) = false := by
  refine beq_eq_false_iff_ne.mpr fun h => ?_
  have := congrArg Str.length h
  rw [one_is, mkS_len, mkS_len] at this
  simp at this
theorem spaced_step {K : List Nat} {j c : Nat} (h : (Str.ofString "&;<>").cps[j]? = some c) : Txt.replace (mkS (spaced K j)) ⟨#[c]⟩ (mkS [32, c, 32]) = mkS (spaced K (j + 1)) := by
  rw [replace_mk (c := c) (zl := [32, c, 32]) rfl rfl]
  have e : (Str.ofString "&;<>").cps = #[38, 59, 60, 62] := by decide +kernel
  rw [e] at h
  match j, h with
  | 0, h => cases (Option.some.inj h); rfl
  | 1, h => cases (Option.some.inj h); rfl
  | 2, h => cases (Option.some.inj h); rfl
  | 3, h => cases (Option.some.inj h); rfl
  | n + 4, h => exact absurd h (by simp)
section
variable {prog : Program} {w : World} {A : Around} {E : Value → Shared → Prop} {s : Shared} {h₀ : Heap} {L D b : Addr} {m : Str → Option Value} {news : List (Addr × Obj)} {its its2 : Array Value} {n n2 : Nat}
theorem extend_any {Q : Value → Shared → Prop} {news' : Nat → List (Addr × Obj)} (F : Fr h₀ L s.heap m) (N : News h₀ L s.heap news) (hb : (b, listOf its2 n2) ∈ news)
    (U : ∀ n', Upd D (listOf its n) (listOf (its.toList ++ its2.toList).toArray n') news (news' n')) (hz : its.size + its2.size ≤ 16777216)
    (h : ∀ h' n', Fr h₀ L h' m → News h₀ L h' (news' n') → Q .none { s with heap := h' }) : wpAny (model prog w) A (call (.builtin "list.extend") [.ref D, .ref b]) Q E s := by
  have hz' : its.size + its2.size ≤ sizeLine := by rw [PySem.sizeLine_eq]; exact hz
  by_cases h0 : its2.toList = []
  · have e : (its.toList ++ its2.toList).toArray = its := by rw [h0]; simp
    have U' := U n
    rw [e] at U'
    exact kxn_extend F N hb h0 U' (extend_door hz') (by rw [Array.length_toList]; omega) (by omega) fun h' => h h' n
  · exact kl_extend F N hb rfl (fun e => h0 (List.eq_nil_of_length_eq_zero e)) (U (n + 1)) (extend_door hz') (by rw [Array.length_toList]; omega) (by omega) fun h' => h h' (n + 1)
theorem st_tok {env : Env} {x : Str} {v : Value} {Q : Unit → Shared → Prop} (F : Fr h₀ L s.heap m) (N : News h₀ L s.heap news) (hL : env.locals = L)
    (h : ∀ h', Fr h₀ L h' (fun y => if y = x then some v else m y) → News h₀ L h' news → Q () { s with heap := h', toks := s.toks + 1 })
    (hl : env.kindOf x = some .local) (hp : (env.scope.kind == .class || (env.scope.kind == .module && env.locals != env.globals)) = false) : wpAny (model prog w) A (storeName env x v) Q E s := by
  subst hL
  exact wpAny_storeName_local hl F.ns (fun h' hn hs => h h' (F.set hn hs) (N.set hs)) hp
end
theorem item_last {prog : Program} {w : World} {A : Around} {E : Value → Shared → Prop} {s : Shared} {value slice : PySem.Expr} {a : Addr} {l' : List (Str × Tok)} {lns : List (List Nat)} {u : Tok} {Q : Value → Shared → Prop} (hl' : l'.map (·.1) = lns.map mkS) (hne : lns ≠ [])
    (hl : s.heap.IsList a (strValues l').toArray) (h : ∀ t, Q (.str (mkS (lns.getLastD [])) t) s)
    (hs : subscripted slice false (.ref a) (.int (-1) u) = operate [.ref a, .int (-1) u] (getItem (.ref a) (.int (-1) u)) := by with_unfolding_all rfl) (hg : ∀ r, letTemporaryGo value (.ref a) r = pure () := by intro _; with_unfolding_all rfl) :
    wpAny (model prog w) A (subscriptTail value slice (.ref a) (.int (-1) u)) Q E s := by
  have q : (strValues l').toArray.size = lns.length := by
    rw [List.size_toArray]; unfold strValues; rw [List.length_map, ← List.length_map (f := (·.1)), hl', List.length_map]
  have hp : 0 < lns.length := List.length_pos_iff.mpr hne
  have hi : lns.length - 1 < (strValues l').toArray.size := by omega
  have hv : (strValues l').toArray[lns.length - 1]? = some ((strValues l').toArray[lns.length - 1]'hi) := Array.getElem?_eq_getElem hi
  obtain ⟨x, t, hx, e⟩ := at_strs hl' hv
  have hx' : lns.getLastD [] = x := by
    rw [List.getLastD_eq_getLast?, List.getLast?_eq_getElem?, hx]; rfl
  have ei : ((-1 : Int) + ((strValues l').toArray.size : Int)).toNat = lns.length - 1 := by omega
  refine subscriptTail_builtin hl.typeIs slot_list_getitem.lookup (wpAny_getItem_list_neg hl (by decide) (by omega) (by decide) (by rw [ei]; exact hv) ?_) hs hg
  rw [e, ← hx']
  exact h t
theorem lines_K4_2 : True := by
  k_with "subscriptTail" => (k_here; (with_reducible show wpAny _ _ (subscriptTail _ _ (Value.ref _) (Value.int (-1) _)) _ _ _); refine item_last (by assumption) (by assumption) (News.isList (by k_asm) (by k_mem)) ?_; intro _)
  k_with "storeName" => (k_here; k_dflt (refine st_tok (by k_asm) (by k_asm) rfl ?_ rfl rfl); intro _ _ _)
  k_with "execs nil" => (k_here; refine wpAny_execs_nil ?_)
  k_with "call builtin:list.extend" => (k_here; k_dflt (refine extend_any (by k_asm) (by k_asm) (by k_mem) (fun _ => by k_upd) (by assumption) ?_); intro _ _ _ N'; (try dsimp only at N'); (try k_sweep))
  k_with "binaryOp Add str str" => (k_here; first | refine add_sp1 ?_ | refine add_sp2 ?_)
  k_with "call builtin:str.replace" => (k_here; refine SC.replaceW (Nat.ne_of_gt (by assumption)) (Nat.succ_ne_zero _) (Nat.ne_of_lt (Nat.lt_succ_of_lt (Nat.lt_succ_of_lt (Nat.lt_succ_of_lt (by assumption))))) (ne_sp _) (by rw [mkS_len]; omega) (by rw [mkS_len]; exact Nat.le_of_ble_eq_true rfl) ?_; intro _ _)
  trivial
set_option maxRecDepth 100000 in
set_option maxHeartbeats 8000000 in
theorem plain_loop (w : World) (mean : ExcName → Option Value) (mg mb : Str → Option Value) (b : List Stmt) (sc : Scope) (hb : BodyAt (KF w.params) 799 7 b sc) (rest : List (Addr × Obj)) (m0 : Str → Option Value) (tka ls : Nat) (l' : List (Str × Tok)) (lns : List (List Nat)) (hl' : l'.map (·.1) = lns.map mkS) (hle : ∀ x ∈ lns, x.length ≤ 110) (hll : lns.length ≤ 200) (hln0 : lns ≠ [])
   (hlt : @LT.lt Nat instLTNat ls tka) (hr : ∀ p ∈ rest, p.1 ≠ tka)
   {dp un : Nat} {gd : Option (List Code)} {cn : Str} {cs : Scope} {a : Addr} {ccd : Value} {cl : List (Str × Addr)} {outer : List Env} {base g : Heap} {L L' : Addr} {s : Shared} {Q : Flow → Shared → Prop} {E : Value → Shared → Prop}
   (B : Below (ktrTop dp un gd cn cs L a ccd cl outer) base (envX cn cs L a ccd cl :: outer) g) 
   (F : Fr g L' s.heap (fun y => if y = Str.ofString "tokens" then some (.ref tka) else if y = Str.ofString "lines" then some (.ref ls) else m0 y)) (X : (KF w.params).In g)
   (N : News g L' s.heap ((tka, listOf #[] 0) :: (ls, listOf (strValues l').toArray 0) :: rest)) (T : Top QV LO mean mg mb g) (hdp : dp + 6 < recursionLimit) (hun : un + 60 < cLine)
   (hret : ∀ h' tk' tp n its ti m', StrsAre its ((lns.flatMap lineW).map mkS) → Fr g L' h' m' → News g L' h' ((tp, ({ cls := .type "tuple", data := .seq #[.ref tka, .int (lns.length + (if 35 ∈ lns.getLastD [] then 1 else 0)) ti] } : Obj)) :: (tka, listOf its.toArray n) :: rest) → @LT.lt Nat instLTNat tka tp → Q (.ret (.ref tp)) { s with heap := h', toks := tk' })
   (hE : PassesOwn (model PySem.Challenge.rw_of0105_01.row.prog w) ((ktrTop dp un gd cn cs L a ccd cl outer).deeper (envOfC (Str.ofString "_law_plain") sc L' 799 (.ref 798))) (envOfC (Str.ofString "_law_plain") sc L' 799 (.ref 798)) E) :
    wpAny (model PySem.Challenge.rw_of0105_01.row.prog w) ((ktrTop dp un gd cn cs L a ccd cl outer).deeper (envOfC (Str.ofString "_law_plain") sc L' 799 (.ref 798))) (execs b (envOfC (Str.ofString "_law_plain") sc L' 799 (.ref 798))) Q E s := by
  have KF : KF w.params = KF w.params := rfl
  revert KF
  k_fill
  intro _
  obtain ⟨e1, e2⟩ := hb.uniq (by k_is)
  subst e1 e2
  dsimp only [List.drop]
  clear hb
  repeat' (first | (k_unfold; (try dsimp only)) | ((fail_if_success (with_reducible show wpAny _ _ (exec (Stmt.For _ _ _ _ _) _) _ _ _)); (first | walk1 | (dsimp only; walk1))))
  with_unfolding_all refine' For_invVF F ?k1 ?k2 ?_ (hE := hE)
  case k1 => exact rfl
  case k2 => exact rfl
  walk1
  refine for_ledger (fun i m nw => PlOff m0 tka ls m ∧ ∃ its k, nw = (tka, listOf its k) :: (ls, listOf (strValues l').toArray 0) :: rest ∧ StrsAre its.toList (((lns.take i).flatMap lineW).map mkS) ∧ its.size ≤ i * 9000) rfl F N (.tail _ (.head _)) ?_ ?_ ?_
  · exact ⟨fun y h1 h2 h3 => rfl, #[], 0, rfl, by simpa using StrsAre.nil, by simp⟩
  · rintro i v I oI m₁ news₁ h₁ tk₁ hi hv ⟨hm, its, k, rfl, hst, hsz⟩ hne F₁ N₁
    rw [plM_of hm] at F₁
    replace F₁ : Fr g L' h₁ _ := F₁
    replace N₁ : News g L' h₁ _ := N₁
    obtain ⟨x, tx, hxi, rfl⟩ := at_strs hl' hv
    have hxl := hle x (List.mem_of_getElem? hxi)
    generalize m₁ (Str.ofString "line") = mln at F₁
    generalize m₁ (Str.ofString "kept") = mkp at F₁
    generalize m₁ (Str.ofString "sign") = msg at F₁
    clear hm F N
    repeat' (first | (k_unfold; (try dsimp only)) | ((fail_if_success (with_reducible show wpAny _ _ (exec (Stmt.For _ _ _ _ _) _) _ _ _)); (first | walk1 | (dsimp only; walk1))))
    rename_i D₂ l₂ _ _ e₂ _ _ _ y₂ t₂ ha₂ h₂ F₂ N₂
    have ey := cut_eq e₂ ha₂
    subst ey
    have hKl := Nat.le_trans (tw_len x) hxl
    generalize hK : (x.takeWhile fun d => decide (d ≠ 35)) = K at *
    clear ha₂ e₂
    refine (for_signs (h₀ := g) (by decide +kernel) rfl rfl rfl (fun j m nw => PlOff m0 tka ls m ∧ (∃ t, m (Str.ofString "kept") = some (.str (mkS (spaced K j)) t)) ∧ nw = (D₂, listOf (strValues l₂).toArray 0) :: (I, oI) :: (tka, listOf its k) :: (ls, listOf (strValues l').toArray 0) :: rest) F₂ N₂ ?_ ?_ ?_ (by first | passes_own | with_unfolding_all passes_own))
    · exact ⟨by intro y h1 h2 h3; simp only [plM, h1, h2, h3, if_false], ⟨_, rfl⟩, rfl⟩
    · rintro j c u I₃ oI₃ m₃ news₃ h₃ tk₃ hc hu hut ⟨hm₃, ⟨t₃, hk₃⟩, rfl⟩ hne₃ F₃ N₃
      rw [plM_of hm₃, hk₃] at F₃
      replace F₃ : Fr g L' h₃ _ := F₃
      replace N₃ : News g L' h₃ _ := N₃
      generalize m₃ (Str.ofString "line") = mln at F₃
      generalize m₃ (Str.ofString "sign") = msg at F₃
      clear hm₃ hk₃ F₂ N₂
      have hjl := spaced_len hKl j
      have hst3 := spaced_step (K := K) hc
      k_steps
      (rename Fr g L' _ _ => F₉)
      (rename News g L' _ _ => N₉)
      refine ⟨rfl, _, _, _, _, rfl, Nat.succ_pos _, F₉, N₉, hne₃, ?_, ⟨_, congrArg (fun z => some (Value.str z _)) hst3⟩, rfl⟩
      intro y h1 h2 h3
      simp only [plM, h1, h2, h3, if_false]
    · intro h₄ tk₄ m₄ news₄ hp₄ F₄ N₄ hJ₄
      have e4 : (Str.ofString "&;<>").cps.size = 4 := by decide +kernel
      rw [e4] at hJ₄
      obtain ⟨hm₄, ⟨t₄, hk₄⟩, e₄⟩ := hJ₄
      subst e₄
      rw [plM_of hm₄, hk₄] at F₄
      replace F₄ : Fr g L' h₄ _ := F₄
      replace N₄ : News g L' h₄ _ := N₄
      generalize m₄ (Str.ofString "line") = mln at F₄
      generalize m₄ (Str.ofString "sign") = msg at F₄
      clear hm₄ hk₄ F₂ N₂
      have hjl := spaced_len hKl 4
      dsimp only
      k_steps
      rename_i D₅ l₅ _ _ e₅ a₅ F₅ N₅
      have hl₅ := len_le_of_words e₅
      rw [mkS_len] at hl₅
      have hv₅ : (strValues l₅).toArray.size ≤ 8911 := by rw [List.size_toArray]; unfold strValues; rw [List.length_map]; omega
      have hil : i < 200 := by
        have q : (strValues l').toArray.size = lns.length := by
          rw [List.size_toArray]; unfold strValues; rw [List.length_map, ← List.length_map (f := (·.1)), hl', List.length_map]
        omega
      have hne5 : @Ne Nat tka I := hne _ (.head _)
      have hr5 : ∀ p ∈ (ls, listOf (strValues l').toArray 0) :: rest, p.1 ≠ tka := fun p hp => by
        rcases List.mem_cons.mp hp with rfl | hp
        · exact Nat.ne_of_lt hlt
        · exact hr p hp
      have hz₅ : its.size + (strValues l₅).toArray.size ≤ 16777216 := by omega
      k_steps
      rename_i h₇ n₇ F₉
      (rename News _ _ _ _ => N₉)
      refine ⟨rfl, _, _, _, (tka, listOf (its.toList ++ (strValues l₅).toArray.toList).toArray n₇) :: (ls, listOf (strValues l').toArray 0) :: rest, rfl, F₉, ?_, .tail _ (.head _), ?_, ?_, _, _, rfl, ?_, ?_⟩
      · intro p hp
        refine N₉ p ?_
        simp only [List.mem_cons] at hp ⊢
        rcases hp with h | h | h | h <;> simp [h]
      · intro p hp
        rcases List.mem_cons.mp hp with rfl | hp
        · exact hne (tka, listOf its k) (.head _)
        · exact hne p (.tail _ hp)
      · intro y h1 h2 h3
        simp only [plM, h1, h2, h3, if_false]
      · rw [List.take_add_one, hxi, List.flatMap_append, List.map_append]
        refine StrsAre.append' hst ?_
        have e6 : ((some x).toList.flatMap lineW).map mkS = l₅.map (·.1) := by
          rw [e₅, words_mk]
          simp only [Option.toList_some, List.flatMap_cons, List.flatMap_nil, List.append_nil, lineW]
          rw [hK]
        rw [e6]
        exact a₅
      · rw [List.size_toArray, List.length_append, Array.length_toList, Array.length_toList]
        omega
  · intro h₆ tk₆ m₆ news₆ F₆ N₆ hJ₆
    obtain ⟨hm₆, its, k, e₆, hst, hsz⟩ := hJ₆
    subst e₆
    rw [plM_of hm₆] at F₆
    replace F₆ : Fr g L' h₆ _ := F₆
    replace N₆ : News g L' h₆ _ := N₆
    generalize m₆ (Str.ofString "line") = mln at F₆
    generalize m₆ (Str.ofString "kept") = mkp at F₆
    generalize m₆ (Str.ofString "sign") = msg at F₆
    clear hm₆ F N
    have q : (strValues l').toArray.size = lns.length := by
      rw [List.size_toArray]; unfold strValues; rw [List.length_map, ← List.length_map (f := (·.1)), hl', List.length_map]
    rw [q, List.take_length] at hst
    rw [q] at hsz
    have hsv := strsAre_of_values l'
    have key : ∀ h' tk' tp ti v, v = (lns.length : Int) + (if 35 ∈ lns.getLastD [] then 1 else 0) → Fr g L' h' (plM m0 tka ls mln mkp msg) → News g L' h' ((tp, ({ cls := .type "tuple", data := .seq #[.ref tka, .int v ti] } : Obj)) :: (tka, listOf its k) :: (ls, listOf (strValues l').toArray 0) :: rest) → @LT.lt Nat instLTNat tka tp → Q (.ret (.ref tp)) { s with heap := h', toks := tk' } := by
      intro h' tk' tp ti v hv F₇ N₇ l₇
      subst hv
      have ea : its.toList.toArray = its := by simp
      refine hret _ _ _ k its.toList ti _ hst F₇ ?_ l₇
      rw [ea]
      intro p hp
      refine N₇ p ?_
      simp only [List.mem_cons] at hp ⊢
      rcases hp with h | h | h
      · exact .inl h
      · exact .inr (.inl h)
      · exact .inr (.inr (.inr h))
    dsimp only
    k_steps
    all_goals (
      rename_i t₇ a₇ D₇ h₇ F₇ N₇ l₇
      exact key _ _ _ _ _ (by rw [hash_in a₇]; rfl) F₇ N₇ l₇.1)

end Mine
end

-- K2
section
namespace Mine

theorem lines_K2_0 : True := by
  k_with_none
  trivial
theorem lines_K2_1 : True := by
  k_with "call builtin:str.split" => (k_here; (refine KSpl.split1 (by k_asm) (by k_asm) (by decide) ?_ (by (rw [mkS_len, PySem.sizeLine_eq]; omega)); (intro _ _ _ _ _ _ _ _ l1); (try k_lt l1)))
  k_with "getMethod ref" => (k_here; (with_reducible show wpAny _ _ (getMethod (Value.ref _) (Str.ofString "get") _) _ _ _); k_dflt (refine getMethod_strTab_get (TabAt.ofNews (by k_asm) (by k_mem) (by assumption) (by assumption) (by assumption)) ?_))
  k_with "call builtin:dict.get" => (k_here; k_dflt (refine get2_S (TabAt.ofNews (by k_asm) (by k_mem) (by assumption) (by assumption) (by assumption)) (by first | assumption | apply_assumption) ?_); intro _)
  trivial
theorem join_mkL {prog : Program} {w : World} {A : Around} {E : Value → Shared → Prop} {s : Shared} {Q : Value → Shared → Prop} {t : Tok} {D : Addr} {items : Array Value} {ls : List (List Nat)} (hl : s.heap.IsList D items) (hi : StrsAre items.toList (ls.map mkS)) (hw : ((ls.map mkS).map (·.length)).sum + (ls.map mkS).length ≤ 1048576)
    (h : ∀ t' k, Q (.str (mkS ls.flatten) t') { s with toks := k }) : wpAny (model prog w) A (call (.builtin "str.join") [.str (Str.ofString "") t, .ref D]) Q E s :=
  join_listW hl hi (by decide) hw fun t' k => by rw [join_mk]; exact h t' k
theorem lines_K2_2 : True := by
  k_with "call builtin:str.join" => (k_here; (refine join_mkL (News.isList (by k_asm) (by k_mem)) (by first | assumption | (show StrsAre (List.toArray _).toList _; assumption)) (by assumption) ?_; intro _ _))
  trivial
def tabG (tab : Nat → Option (List Nat)) (c : Nat) : List Nat := (tab c).getD [c]
theorem flat_len5 {ls : List (List Nat)} (h : ∀ l ∈ ls, l.length ≤ 5) : ls.flatten.length ≤ 5 * ls.length := by
  induction ls with
  | nil => simp
  | cons a r ih =>
    have h1 := h a (.head _)
    have h2 := ih fun l hl => h l (.tail _ hl)
    simp only [List.flatten_cons, List.length_append, List.length_cons]
    omega
theorem plainW_len {tab : Nat → Option (List Nat)} {l : List Nat} (h : ∀ c, (tabG tab c).length ≤ 5) (hx : l.length ≤ 22) : (l.map (tabG tab)).flatten.length ≤ 110 := by
  have := flat_len5 (ls := l.map (tabG tab)) (by intro y hy; obtain ⟨c, _, rfl⟩ := List.mem_map.mp hy; exact h c)
  rw [List.length_map] at this
  omega
theorem plainW_w {tab : Nat → Option (List Nat)} {l : List Nat} (h : ∀ c, (tabG tab c).length ≤ 5) (hx : l.length ≤ 22) : (((l.map (tabG tab)).map mkS).map (·.length)).sum + ((l.map (tabG tab)).map mkS).length ≤ 1048576 := by
  have := sum_le (ys := (l.map (tabG tab)).map mkS) (b := 5) (by
    intro y hy; obtain ⟨z, hz, rfl⟩ := List.mem_map.mp hy; obtain ⟨c, _, rfl⟩ := List.mem_map.mp hz; rw [mkS_len]; exact h c)
  rw [List.length_map, List.length_map] at this ⊢
  omega
theorem BodyAt.more {K : Frag} {f : Addr} {n : Nat} {b : List Stmt} {sc : Scope} (h : BodyAt K f n b sc) (k : Nat) : BodyAt K f (n + k) (b.drop k) sc := by
  obtain ⟨oc, od, osl, name, qual, params, body, dV, kV, doc, pm, an, cdv, ct, h, rfl⟩ := h
  exact ⟨oc, od, osl, name, qual, params, body, dV, kV, doc, pm, an, cdv, ct, h, by rw [List.drop_drop]⟩
theorem splL_short (c : Nat) : ∀ (l x : List Nat), x ∈ splL c l → x.length ≤ l.length
  | [], x, h => by
    rcases List.mem_cons.mp h with rfl | h
    · exact Nat.le_refl _
    · cases h
  | d :: r, x, h => by
    unfold splL at h
    have hne := splL_ne c r
    split at h
    · rcases List.mem_cons.mp h with rfl | h
      · exact Nat.zero_le _
      · exact Nat.le_succ_of_le (splL_short c r x h)
    · rcases List.mem_cons.mp h with rfl | h
      · have : (splL c r).headD [] ∈ splL c r := by
          cases e : splL c r with
          | nil => exact absurd e hne
          | cons a t => simp
        have := splL_short c r _ this
        simp only [List.length_cons]
        omega
      · exact Nat.le_succ_of_le (splL_short c r x (List.mem_of_mem_tail h))
theorem splL_count (c : Nat) : ∀ l : List Nat, (splL c l).length ≤ l.length + 1
  | [] => by simp [splL]
  | d :: r => by
    have ih := splL_count c r
    unfold splL
    split
    · simp only [List.length_cons]; omega
    · simp only [List.length_cons, List.length_tail]; omega
theorem allLt_mem' {d : Nat} {l : List (Addr × Obj)} (h : AllLt d l) : ∀ p ∈ l, @LT.lt Nat instLTNat p.1 d := by
  induction l with
  | nil => intro p hp; cases hp
  | cons q r ih =>
    intro p hp
    rcases List.mem_cons.mp hp with rfl | hp
    · exact h.1
    · exact ih h.2 p hp
abbrev plainLn (W : List Nat) : List (List Nat) := splL 10 W
set_option maxRecDepth 100000 in
set_option maxHeartbeats 8000000 in
theorem plain_tail (w : World) (mean : ExcName → Option Value) (mg mb : Str → Option Value) (b : List Stmt) (sc : Scope) (hb : BodyAt (KF w.params) 799 5 b sc) (news : List (Addr × Obj)) (l : List Nat) (t : Nat) (tv : Value) (hx : l.length ≤ 22) (d : Nat) (o oc : Obj) (kvs : List (Str × Value)) (D : List (PyData × PyData)) (tab : Nat → Option (List Nat))
   (hlo : (d == sysModules) = false) (hdo : Obj.IsDictOf (PySem.strKind PySem.Challenge.rw_of0105_01.row.prog w) o kvs) (hf : PyProof.V.FlatPairs PyData.str kvs D) (hdc : oc.data = .cell (some (.ref d)))
   (hlook : ∀ c, PySem.Spec.lookup (.str ⟨#[c]⟩) D = some (.str (mkS (tabG tab c))) ∨ (PySem.Spec.lookup (.str ⟨#[c]⟩) D = none ∧ mkS (tabG tab c) = ⟨#[c]⟩)) (htl : ∀ c, (tabG tab c).length ≤ 5)
   {dp un : Nat} {gd : Option (List Code)} {cn : Str} {cs : Scope} {a : Addr} {ccd : Value} {cl : List (Str × Addr)} {outer : List Env} {base g : Heap} {L L' : Addr} {s : Shared} {Q : Flow → Shared → Prop} {E : Value → Shared → Prop}
   (B : Below (ktrTop dp un gd cn cs L a ccd cl outer) base (envX cn cs L a ccd cl :: outer) g) 
   (F : Fr g L' s.heap (bindL (envOfC (Str.ofString "_law_plain") sc L' 799 (.ref 798)).kindOf [(Str.ofString "turn", tv), (Str.ofString "text", .str (mkS l) t)] fun _ => none)) (X : (KF w.params).In g)
   (N : News g L' s.heap ((d, o) :: (L' + 1, oc) :: news)) (T : Top QV LO mean mg mb g) (hdp : dp + 6 < recursionLimit) (hun : un + 60 < cLine) (hl1 : ∀ p ∈ news, @LT.lt Nat instLTNat p.1 (L' + 1)) (hl2 : @LT.lt Nat instLTNat (L' + 1) d)
   (hret : ∀ h' tk' tp tk n its ti m', StrsAre its (((plainLn (l.map (tabG tab)).flatten).flatMap lineW).map mkS) → Fr g L' h' m' → News g L' h' ((tp, ({ cls := .type "tuple", data := .seq #[.ref tk, .int ((plainLn (l.map (tabG tab)).flatten).length + (if 35 ∈ (plainLn (l.map (tabG tab)).flatten).getLastD [] then 1 else 0)) ti] } : Obj)) :: (tk, listOf its.toArray n) :: news) → (∀ p ∈ news, @LT.lt Nat instLTNat p.1 tk) → @LT.lt Nat instLTNat tk tp → Q (.ret (.ref tp)) { s with heap := h', toks := tk' })
   (hE : PassesOwn (model PySem.Challenge.rw_of0105_01.row.prog w) ((ktrTop dp un gd cn cs L a ccd cl outer).deeper (envOfC (Str.ofString "_law_plain") sc L' 799 (.ref 798))) (envOfC (Str.ofString "_law_plain") sc L' 799 (.ref 798)) E) :
    wpAny (model PySem.Challenge.rw_of0105_01.row.prog w) ((ktrTop dp un gd cn cs L a ccd cl outer).deeper (envOfC (Str.ofString "_law_plain") sc L' 799 (.ref 798))) (execs b (envOfC (Str.ofString "_law_plain") sc L' 799 (.ref 798))) Q E s := by
  have KF : KF w.params = KF w.params := rfl
  revert KF
  k_fill
  intro _
  obtain ⟨e1, e2⟩ := hb.uniq (by k_is)
  subst e1 e2
  dsimp only [List.drop]
  repeat' (first | (k_unfold; (try dsimp only)) | ((fail_if_success (with_reducible show wpAny _ _ (eval (Expr.ListComp _ _ _ _) _) _ _ _)); (first | walk1 | (dsimp only; walk1))))
  refine ListComp_S (by k_asm) (by with_unfolding_all rfl) (by decide) (by rfl) (by decide) (by rfl) ?_
  repeat' (first | (k_unfold; (try dsimp only)) | ((fail_if_success (with_reducible show SrcS _ _ _ _ _ _ _ _ _ _ _ _ _ _)); (first | walk1 | (dsimp only; walk1))))
  refine ⟨_, _, _, rfl, rfl, by k_asm, by k_asm, by (show l.toArray.size ≤ _; rw [List.size_toArray, PySem.sizeLine_eq]; omega), ?_⟩
  rintro s₂ ⟨hh, rfl⟩
  refine signs_rest (fun c => mkS (tabG tab c)) (fun c t' I' oI' C' oC' D' m' ys' h' tk' E' hk' hC' hx' F' N' off' ne' => ?_) ?_
  · have off0 := off'
    have hlk := hlook c
    simp only [LCg.Off3] at off'
    k_steps
    exact ⟨_, _, _, rfl, F', N', off0, trivial, rfl, _, rfl⟩
  · intro ys' hst D' h' tk' F' N' off'
    clear hlook hdo hf hdc hlo
    dsimp only
    have hst' : StrsAre ys' ((l.map (tabG tab)).map mkS) := by rw [List.map_map]; exact hst
    clear hst
    have hW : (l.map (tabG tab)).flatten.length ≤ 110 := plainW_len htl hx
    have hJ : (((l.map (tabG tab)).map mkS).map (·.length)).sum + ((l.map (tabG tab)).map mkS).length ≤ 1048576 := plainW_w htl hx
    repeat' (first | (k_unfold; (try dsimp only)) | ((fail_if_success (with_reducible show wpAny _ _ (execs (Stmt.For _ _ _ _ _ :: _) _) _ _ _)); (first | walk1 | (dsimp only; walk1))))
    rename_i t₁ k₁ ls l₁ _ _ e₁ a₁ _ tka _ lt₂ h₃ F₃ N₃
    have e10 : Str.ofString "\n" = ⟨#[10]⟩ := by decide +kernel
    rw [e10, split_mk] at e₁
    obtain ⟨q1, q2, q3, q4, q5⟩ := lt₂
    have q5' := allLt_mem' q5
    have hrest : ∀ p ∈ (D', LCg.lst ys') :: (d, o) :: (L' + 1, oc) :: news, p.1 ≠ tka := by
      intro p hp
      rcases List.mem_cons.mp hp with rfl | hp
      · exact Nat.ne_of_lt q2
      rcases List.mem_cons.mp hp with rfl | hp
      · exact Nat.ne_of_lt q3
      rcases List.mem_cons.mp hp with rfl | hp
      · exact Nat.ne_of_lt q4
      exact Nat.ne_of_lt (q5' p hp)
    refine plain_loop w mean mg mb _ _ (hb.more 2) _ _ tka ls l₁ (splL 10 (l.map (tabG tab)).flatten) e₁ (fun x hx => Nat.le_trans (splL_short 10 _ x hx) hW) (Nat.le_trans (splL_count 10 _) (by omega)) (splL_ne 10 _) q1 hrest B F₃ X N₃ T hdp hun ?_ hE
    intro h' tk' tp n its ti m' hs₄ F₄ N₄ l₄
    refine hret h' tk' tp tka n its ti m' hs₄ F₄ (fun p hp => N₄ p ?_) q5' l₄
    simp only [List.mem_cons] at hp ⊢
    rcases hp with h | h | h <;> simp [h]

end Mine
end

-- K5
section
namespace Mine

theorem lines_K5_0 : True := by
  k_with_none
  trivial
def tabT (turn : Int) : List (Nat × List Nat) :=
  if turn = 0 then [(38, [38, 97, 109, 112, 59]), (60, [38, 108, 116, 59]), (62, [38, 103, 116, 59])]
  else if turn = 1 then [(38, [38, 97, 109, 112, 59]), (60, [38, 108, 116, 59]), (62, [38, 103, 116, 59]), (13, [38, 35]), (10, [38, 35]), (9, [38, 35])]
  else if turn = 2 then [(38, [38, 97, 109, 112, 59]), (62, [38, 103, 116, 59])]
  else if turn = 3 then [(38, [38, 97, 109, 112, 59]), (60, [38, 108, 116, 59]), (62, [38, 103, 116, 59]), (13, [38, 35])]
  else [(38, [38, 97, 109, 112, 59]), (60, [38, 108, 116, 59]), (13, [38, 35]), (10, [38, 35]), (9, [38, 35])]
def tabOf (turn : Int) (c : Nat) : Option (List Nat) := (tabT turn).lookup c
abbrev plainW (turn : Int) (l : List Nat) : List Nat := (l.map (tabG (tabOf turn))).flatten
theorem one_eq {a c : Nat} : ((⟨#[a]⟩ : Str) = ⟨#[c]⟩) ↔ c = a := by
  constructor
  · intro h
    have := congrArg (fun s : Str => s.cps.toList) h
    simpa using this.symm
  · rintro rfl; rfl
theorem look_mk (c : Nat) : ∀ T : List (Nat × List Nat), PySem.Spec.lookup (.str ⟨#[c]⟩) (T.map fun p => (PyData.str ⟨#[p.1]⟩, PyData.str (mkS p.2))) = (T.lookup c).map fun l => PyData.str (mkS l)
  | [] => rfl
  | (a, z) :: T => by
    have ih := look_mk c T
    rw [List.map_cons, List.lookup_cons]
    by_cases h : c = a
    · subst h
      rw [beq_self_eq_true]
      simp [PySem.Spec.lookup, PyProof.V.same_str]
    · have h' : ¬ ((⟨#[a]⟩ : Str) = ⟨#[c]⟩) := fun e => h (one_eq.mp e)
      rw [beq_eq_false_iff_ne.mpr h, ← ih]
      simp [PySem.Spec.lookup, PyProof.V.same_str, h']
theorem tab_look (turn : Int) (c : Nat) {D : List (PyData × PyData)} (h : D = (tabT turn).map fun p => (PyData.str ⟨#[p.1]⟩, PyData.str (mkS p.2))) :
    PySem.Spec.lookup (.str ⟨#[c]⟩) D = some (.str (mkS (tabG (tabOf turn) c))) ∨ (PySem.Spec.lookup (.str ⟨#[c]⟩) D = none ∧ mkS (tabG (tabOf turn) c) = ⟨#[c]⟩) := by
  subst h
  rw [look_mk]
  unfold tabG tabOf
  cases (tabT turn).lookup c with
  | none => exact .inr ⟨rfl, rfl⟩
  | some z => exact .inl rfl
theorem lookup_mem {c : Nat} {z : List Nat} : ∀ {T : List (Nat × List Nat)}, T.lookup c = some z → (c, z) ∈ T
  | [], h => by cases h
  | (a, y) :: T, h => by
    rw [List.lookup_cons] at h
    by_cases e : c = a
    · subst e
      rw [beq_self_eq_true] at h
      cases (Option.some.inj h)
      exact .head _
    · rw [beq_eq_false_iff_ne.mpr e] at h
      exact .tail _ (lookup_mem h)
theorem tab_len (turn : Int) (c : Nat) : (tabG (tabOf turn) c).length ≤ 5 := by
  have key : ∀ p ∈ tabT turn, p.2.length ≤ 5 := by
    unfold tabT
    repeat' split
    all_goals decide
  unfold tabG tabOf
  cases e : (tabT turn).lookup c with
  | none => simp
  | some z => exact key _ (lookup_mem e)
set_option maxRecDepth 100000 in
set_option maxHeartbeats 8000000 in
theorem plain_c (w : World) (mean : ExcName → Option Value) (mg mb : Str → Option Value) (news : List (Addr × Obj)) (turn : Int) (ht0 : 0 ≤ turn) (ht1 : turn < 5) (l : List Nat) (t t' : Nat) (hx : l.length ≤ 22) :
   Ctr w mean mg mb 799 [.int turn t', .str (mkS l) t] 8 news
     (fun h₀ L _ h' v => ∃ tp tk n its ti, v = .ref tp ∧ StrsAre its (((plainLn (plainW turn l)).flatMap lineW).map mkS) ∧
       News h₀ L h' ((tp, ({ cls := .type "tuple", data := .seq #[.ref tk, .int ((plainLn (plainW turn l)).length + (if 35 ∈ (plainLn (plainW turn l)).getLastD [] then 1 else 0)) ti] } : Obj)) :: (tk, listOf its.toArray n) :: news) ∧ (∀ p ∈ news, @LT.lt Nat instLTNat p.1 tk) ∧ @LT.lt Nat instLTNat tk tp) := by
  unfold Ctr
  k_fill
  intro dp un gd cn cs a ccd cl outer A₀ base h₀ L m s Q E B F X N T hk hdp hun hret
  refine wpAny_call ?_
  have hcase : turn = 0 ∨ turn = 1 ∨ turn = 2 ∨ turn = 3 ∨ turn = 4 := by omega
  clear ht0 ht1
  k_dflt (refine' code_defC ?k1 ?k2 ?k3 ?k4 ?k5 ?kA ?kF ?kK ?k6 ?k7 ?k8 ?k9 ?kB ?kD ?_ ?c2 ?c3 ?c4; (case kA => exact rfl); (case kF => exact rfl); (case kK => assumption); (case k1 => k_asm); (case k2 => k_asm); (case k3 => k_asm); (case k4 => k_asm); (case k5 => k_asm); (case k6 => k_is); (case k7 => k_is); (case k8 => ktr_room); (case k9 => exact kp_binds (binds := [(Str.ofString "turn", .int turn t'), (Str.ofString "text", .str (mkS l) t)]) (X.keeps F.keep) (fun S => by kernel_rfl)); (case kB => exact rfl); (case kD => decide +kernel); (case c2 => exact rfl); (case c3 => exact rfl); (case c4 => exact rfl); k_whole; intro g' L' h' tk' cells' FG' F' N' Y' B' X' T' l1; (try k_lt l1); k_cells Y'; (try simp only [List.cons_append, List.nil_append] at N'); (try dsimp only); (try k_lift B'); (try k_fold))
  have hc9 : ∀ p ∈ news, p.1 ≠ L' + 1 := fun p hp => Nat.ne_of_lt (Nat.lt_succ_of_lt (l1 p hp))
  have hl9 : ∀ p ∈ news, @LT.lt Nat instLTNat p.1 (L' + 1) := fun p hp => Nat.lt_succ_of_lt (l1 p hp)
  rcases hcase with rfl | rfl | rfl | rfl | rfl
  · repeat' (first | (k_unfold; (try dsimp only)) | ((fail_if_success (with_reducible show wpAny _ _ (execs (Stmt.Assign [Expr.Name (Str.ofString "lines") _] _ _ :: _) _) _ _ _)); (first | walk1 | (dsimp only; walk1))))
    dsimp only
    (rename News g' L' _ _ => N₉)
    (rename Fr g' L' _ _ => F₉)
    have N₈ := news_tail (news_tail N₉)
    have fin : ∀ h₃ tk₃ tp tk n its ti m₃, StrsAre its (((plainLn (plainW 0 l)).flatMap lineW).map mkS) → Fr g' L' h₃ m₃ → News g' L' h₃ ((tp, ({ cls := .type "tuple", data := .seq #[.ref tk, .int ((plainLn (plainW 0 l)).length + (if 35 ∈ (plainLn (plainW 0 l)).getLastD [] then 1 else 0)) ti] } : Obj)) :: (tk, listOf its.toArray n) :: news) → (∀ p ∈ news, @LT.lt Nat instLTNat p.1 tk) → @LT.lt Nat instLTNat tk tp → LeaveK h₀ L m g' (fun r s' => match r with | .ok (.ret v) => Q v s' | .ok _ => False | .error e => E e s') (.ref tp) { s with heap := h₃, toks := tk₃ } := by
      clear N₈ N₉ F₉
      intro h₃ tk₃ tp tk n its ti m₃ hs₃ F₃ N₃ l₃ l₄
      k_steps
      exact hret _ _ _ (by k_asm) ⟨tp, tk, n, its, ti, rfl, hs₃, by k_asm, l₃, l₄⟩
    refine' plain_tail w mean mg mb _ _ _ news l t _ hx _ _ _ _ _ (tabOf 0) _ _ _ _ _ (tab_len 0) B' F₉ X' N₈ T' _ _ hl9 _ _ _
    all_goals (first | exact ⟨_, _, _, _, _, _, _, _, _, _, _, _, _, _, by k_is, rfl⟩ | assumption | omega | skip)
    all_goals (first | assumption | omega | exact fin | exact (fun c => tab_look 0 c (by kernel_rfl)) | passes_own | (with_unfolding_all passes_own) | skip)
  · repeat' (first | (k_unfold; (try dsimp only)) | ((fail_if_success (with_reducible show wpAny _ _ (execs (Stmt.Assign [Expr.Name (Str.ofString "lines") _] _ _ :: _) _) _ _ _)); (first | walk1 | (dsimp only; walk1))))
    dsimp only
    (rename News g' L' _ _ => N₉)
    (rename Fr g' L' _ _ => F₉)
    have N₈ := news_tail (news_tail N₉)
    have fin : ∀ h₃ tk₃ tp tk n its ti m₃, StrsAre its (((plainLn (plainW 1 l)).flatMap lineW).map mkS) → Fr g' L' h₃ m₃ → News g' L' h₃ ((tp, ({ cls := .type "tuple", data := .seq #[.ref tk, .int ((plainLn (plainW 1 l)).length + (if 35 ∈ (plainLn (plainW 1 l)).getLastD [] then 1 else 0)) ti] } : Obj)) :: (tk, listOf its.toArray n) :: news) → (∀ p ∈ news, @LT.lt Nat instLTNat p.1 tk) → @LT.lt Nat instLTNat tk tp → LeaveK h₀ L m g' (fun r s' => match r with | .ok (.ret v) => Q v s' | .ok _ => False | .error e => E e s') (.ref tp) { s with heap := h₃, toks := tk₃ } := by
      clear N₈ N₉ F₉
      intro h₃ tk₃ tp tk n its ti m₃ hs₃ F₃ N₃ l₃ l₄
      k_steps
      exact hret _ _ _ (by k_asm) ⟨tp, tk, n, its, ti, rfl, hs₃, by k_asm, l₃, l₄⟩
    refine' plain_tail w mean mg mb _ _ _ news l t _ hx _ _ _ _ _ (tabOf 1) _ _ _ _ _ (tab_len 1) B' F₉ X' N₈ T' _ _ hl9 _ _ _
    all_goals (first | exact ⟨_, _, _, _, _, _, _, _, _, _, _, _, _, _, by k_is, rfl⟩ | assumption | omega | skip)
    all_goals (first | assumption | omega | exact fin | exact (fun c => tab_look 1 c (by kernel_rfl)) | passes_own | (with_unfolding_all passes_own) | skip)
  · repeat' (first | (k_unfold; (try dsimp only)) | ((fail_if_success (with_reducible show wpAny _ _ (execs (Stmt.Assign [Expr.Name (Str.ofString "lines") _] _ _ :: _) _) _ _ _)); (first | walk1 | (dsimp only; walk1))))
    dsimp only
    (rename News g' L' _ _ => N₉)
    (rename Fr g' L' _ _ => F₉)
    have N₈ := news_tail (news_tail N₉)
    have fin : ∀ h₃ tk₃ tp tk n its ti m₃, StrsAre its (((plainLn (plainW 2 l)).flatMap lineW).map mkS) → Fr g' L' h₃ m₃ → News g' L' h₃ ((tp, ({ cls := .type "tuple", data := .seq #[.ref tk, .int ((plainLn (plainW 2 l)).length + (if 35 ∈ (plainLn (plainW 2 l)).getLastD [] then 1 else 0)) ti] } : Obj)) :: (tk, listOf its.toArray n) :: news) → (∀ p ∈ news, @LT.lt Nat instLTNat p.1 tk) → @LT.lt Nat instLTNat tk tp → LeaveK h₀ L m g' (fun r s' => match r with | .ok (.ret v) => Q v s' | .ok _ => False | .error e => E e s') (.ref tp) { s with heap := h₃, toks := tk₃ } := by
      clear N₈ N₉ F₉
      intro h₃ tk₃ tp tk n its ti m₃ hs₃ F₃ N₃ l₃ l₄
      k_steps
      exact hret _ _ _ (by k_asm) ⟨tp, tk, n, its, ti, rfl, hs₃, by k_asm, l₃, l₄⟩
    refine' plain_tail w mean mg mb _ _ _ news l t _ hx _ _ _ _ _ (tabOf 2) _ _ _ _ _ (tab_len 2) B' F₉ X' N₈ T' _ _ hl9 _ _ _
    all_goals (first | exact ⟨_, _, _, _, _, _, _, _, _, _, _, _, _, _, by k_is, rfl⟩ | assumption | omega | skip)
    all_goals (first | assumption | omega | exact fin | exact (fun c => tab_look 2 c (by kernel_rfl)) | passes_own | (with_unfolding_all passes_own) | skip)
  · repeat' (first | (k_unfold; (try dsimp only)) | ((fail_if_success (with_reducible show wpAny _ _ (execs (Stmt.Assign [Expr.Name (Str.ofString "lines") _] _ _ :: _) _) _ _ _)); (first | walk1 | (dsimp only; walk1))))
    dsimp only
    (rename News g' L' _ _ => N₉)
    (rename Fr g' L' _ _ => F₉)
    have N₈ := news_tail (news_tail N₉)
    have fin : ∀ h₃ tk₃ tp tk n its ti m₃, StrsAre its (((plainLn (plainW 3 l)).flatMap lineW).map mkS) → Fr g' L' h₃ m₃ → News g' L' h₃ ((tp, ({ cls := .type "tuple", data := .seq #[.ref tk, .int ((plainLn (plainW 3 l)).length + (if 35 ∈ (plainLn (plainW 3 l)).getLastD [] then 1 else 0)) ti] } : Obj)) :: (tk, listOf its.toArray n) :: news) → (∀ p ∈ news, @LT.lt Nat instLTNat p.1 tk) → @LT.lt Nat instLTNat tk tp → LeaveK h₀ L m g' (fun r s' => match r with | .ok (.ret v) => Q v s' | .ok _ => False | .error e => E e s') (.ref tp) { s with heap := h₃, toks := tk₃ } := by
      clear N₈ N₉ F₉
      intro h₃ tk₃ tp tk n its ti m₃ hs₃ F₃ N₃ l₃ l₄
      k_steps
      exact hret _ _ _ (by k_asm) ⟨tp, tk, n, its, ti, rfl, hs₃, by k_asm, l₃, l₄⟩
    refine' plain_tail w mean mg mb _ _ _ news l t _ hx _ _ _ _ _ (tabOf 3) _ _ _ _ _ (tab_len 3) B' F₉ X' N₈ T' _ _ hl9 _ _ _
    all_goals (first | exact ⟨_, _, _, _, _, _, _, _, _, _, _, _, _, _, by k_is, rfl⟩ | assumption | omega | skip)
    all_goals (first | assumption | omega | exact fin | exact (fun c => tab_look 3 c (by kernel_rfl)) | passes_own | (with_unfolding_all passes_own) | skip)
  · repeat' (first | (k_unfold; (try dsimp only)) | ((fail_if_success (with_reducible show wpAny _ _ (execs (Stmt.Assign [Expr.Name (Str.ofString "lines") _] _ _ :: _) _) _ _ _)); (first | walk1 | (dsimp only; walk1))))
    dsimp only
    (rename News g' L' _ _ => N₉)
    (rename Fr g' L' _ _ => F₉)
    have N₈ := news_tail (news_tail N₉)
    have fin : ∀ h₃ tk₃ tp tk n its ti m₃, StrsAre its (((plainLn (plainW 4 l)).flatMap lineW).map mkS) → Fr g' L' h₃ m₃ → News g' L' h₃ ((tp, ({ cls := .type "tuple", data := .seq #[.ref tk, .int ((plainLn (plainW 4 l)).length + (if 35 ∈ (plainLn (plainW 4 l)).getLastD [] then 1 else 0)) ti] } : Obj)) :: (tk, listOf its.toArray n) :: news) → (∀ p ∈ news, @LT.lt Nat instLTNat p.1 tk) → @LT.lt Nat instLTNat tk tp → LeaveK h₀ L m g' (fun r s' => match r with | .ok (.ret v) => Q v s' | .ok _ => False | .error e => E e s') (.ref tp) { s with heap := h₃, toks := tk₃ } := by
      clear N₈ N₉ F₉
      intro h₃ tk₃ tp tk n its ti m₃ hs₃ F₃ N₃ l₃ l₄
      k_steps
      exact hret _ _ _ (by k_asm) ⟨tp, tk, n, its, ti, rfl, hs₃, by k_asm, l₃, l₄⟩
    refine' plain_tail w mean mg mb _ _ _ news l t _ hx _ _ _ _ _ (tabOf 4) _ _ _ _ _ (tab_len 4) B' F₉ X' N₈ T' _ _ hl9 _ _ _
    all_goals (first | exact ⟨_, _, _, _, _, _, _, _, _, _, _, _, _, _, by k_is, rfl⟩ | assumption | omega | skip)
    all_goals (first | assumption | omega | exact fin | exact (fun c => tab_look 4 c (by kernel_rfl)) | passes_own | (with_unfolding_all passes_own) | skip)

end Mine
end

-- M1
section
namespace Mine

theorem lines_M1_0 : True := by
  k_with_none
  trivial
open PySem.Calls
/-- an exception made while another is handled: the other stands in its third field -/
structure ExcOver (h h' : Heap) (e hd : Addr) (cls : String) : Prop where
  keeps : ∀ b o, h.get? b = some o → h'.get? b = some o
  new : h.get? e = none
  there : ∃ ob t, h'.get? e = some ob ∧ ob.cls = .type cls ∧ ob.data = .fields #[t, .none, .ref hd, .none, .bool false, .none]
section
variable {prog : Program} {w : World} {A : Around} {E : Value → Shared → Prop} {s : Shared}
theorem raiseNew_over {α : Type} {e d : Addr} {oe od : Obj} {us vs : Array Value} {Q : α → Shared → Prop} (hh : A.handled = some (.ref d)) (hne : d ≠ e) (hd : s.heap.get? d = some od) (hdd : od.data = .fields vs) (h2 : vs[2]? = some .none)
    (he : s.heap.get? e = some oe) (hed : oe.data = .fields us) (hu : 2 < us.size) (hz : us.size ≤ 100) (h : E (.ref e) { s with heap := s.heap.update e (Obj.mapFields (·.setIfInBounds 2 (.ref d))) }) :
    wpAny (model prog w) A (raiseNew (.ref e) : Sem α) Q E s := by
  unfold raiseNew
  refine wpAny_bind (wpAny_handled ?_)
  rw [hh]
  dsimp only
  rw [if_pos (by simpa using hne)]
  refine wpAny_bind (wpAny_holding (wpAny_runValue (codeAny_builtin (b := Builtin.«proto.unchain») (entryFor_of_tree (by kernel_rfl)) ?_)))
  show wpAny _ _ (field (.ref d) 2 >>= _) _ _ s
  refine wpAny_bind (wpAny_field hd hdd h2 ?_)
  rw [if_pos (by decide)]
  refine wpAny_pure ?_
  dsimp only
  refine wpAny_bind ?_
  refine wpAny_setField he hed hu ?_
  exact wpAny_throw h
theorem raiseWords_over {α : Type} {cls msg : String} {d : Addr} {od : Obj} {vs : Array Value} {Q : α → Shared → Prop} (hp : PlainExc cls) (hh : A.handled = some (.ref d)) (hd : s.heap.get? d = some od) (hdd : od.data = .fields vs) (h2 : vs[2]? = some .none)
    (h : ∀ h' tk e, ExcOver s.heap h' e d cls → E (.ref e) { s with heap := h', toks := tk }) : wpAny (model prog w) A (raiseErrorWords cls msg : Sem α) Q E s := by
  unfold raiseErrorWords
  refine wpAny_bind (wpAny_mkText (wpAny_bind ?_))
  unfold newExc newTuple
  refine wpAny_bind (wpAny_newObj_type ?_)
  refine wpAny_bind (m := firstArgMember _ _) (wpAny_of_eq (a := Value.none) (by simp only [firstArgMember, hp.first]; rfl) ?_)
  rw [hp.own]
  refine wpAny_newObj_type ?_
  have hlt : d < s.heap.objs.size := Heap.lt_size hd
  refine raiseNew_over hh ?_ (Heap.get?_push_of_some _ (Heap.get?_push_of_some _ hd)) hdd h2 (Heap.get?_push_size _ rfl) (by rfl) (by simp) (by simp) ?_
  · exact Nat.ne_of_lt (Nat.lt_of_lt_of_le hlt (by rw [Heap.size_push]; exact Nat.le_succ _))
  · refine h _ _ _ ⟨fun b o hb => ?_, Heap.get?_none_of_le (by simp), _, .ref s.heap.objs.size, Heap.get?_update_self _ (Heap.get?_push_size _ rfl) ?_, rfl, ?_⟩
    · have hb' : b < s.heap.objs.size := Heap.lt_size hb
      refine (Heap.get?_update_ne _ _ _ _ ?_).trans (Heap.get?_push_of_some _ (Heap.get?_push_of_some _ hb))
      exact Nat.ne_of_lt (Nat.lt_of_lt_of_le hb' (by rw [Heap.size_push]; exact Nat.le_succ _))
    · rfl
    · simp [Obj.mapFields]
theorem item_over {value slice : PySem.Expr} {a d : Addr} {od : Obj} {ws : Array Value} {vs : List Value} {xs : List Str} {i : Int} {u : Tok} {Q : Value → Shared → Prop} (hh : A.handled = some (.ref d)) (hd : s.heap.get? d = some od) (hdd : od.data = .fields ws) (h2 : ws[2]? = some .none)
    (hl : s.heap.IsList a vs.toArray) (hi : StrsAre vs xs) (h0 : (xs.length : Int) ≤ i) (h1 : i ≤ 100000)
    (hE : ∀ h' tk e, ExcOver s.heap h' e d "IndexError" → E (.ref e) { s with heap := h', toks := tk })
    (hs : subscripted slice false (.ref a) (.int i u) = operate [.ref a, .int i u] (getItem (.ref a) (.int i u)) := by with_unfolding_all rfl) (hg : ∀ r, letTemporaryGo value (.ref a) r = pure () := by intro _; with_unfolding_all rfl) :
    wpAny (model prog w) A (subscriptTail value slice (.ref a) (.int i u)) Q E s := by
  have hsz : vs.toArray.size = xs.length := by rw [List.size_toArray]; exact hi.len_eq
  refine subscriptTail_builtin hl.typeIs slot_list_getitem.lookup ?_ hs hg
  obtain ⟨o, ho, hc, ne, hdt⟩ := id hl
  unfold getItem
  try with_reducible refine wpAny_holding ?_
  first | refine wpAny_bind (wpAny_pure ?_) | skip
  refine wpAny_bind (wpAny_sequenceKey hl.typeIs (by decide) ?_)
  refine wpAny_bind (wpAny_callSpecial?_slot (name := Str.ofString "__getitem__") hl.typeIs slot_list_getitem
    (wpAny_call_entry slot_list_getitem hl.typeIs entry_list_getitem ?_ (args_list_getitem _ _)))
  show wpAny _ _ (Builtin.List.listSubscript? (.int i u) >>= _) _ _ s
  refine wpAny_bind (wpAny_listSubscript_int (fitsIndex_both (by omega) (by omega)) ?_)
  cases i with
  | ofNat j =>
    have hx : vs.toArray[j]? = none := Array.getElem?_eq_none (by rw [hsz]; have : (xs.length : Int) ≤ (j : Int) := h0; omega)
    show wpAny _ _ ((seqItemAt a j >>= fun r => pure (r.map (j, ·))) >>= _) _ _ s
    refine wpAny_bind (wpAny_bind (wpAny_seqItemAt ho hdt (wpAny_pure ?_)))
    rw [hx]
    exact wpAny_bind (wpAny_rule (wpAny_bind (raiseWords_over plainExc_IndexError (A := A.in1) hh hd hdd h2 hE)))
  | negSucc j => exact absurd h0 (by have := Int.negSucc_lt_zero j; omega)
end

end Mine
end

-- M2
section
namespace Mine

theorem lines_M2_0 : True := by
  k_with_none
  trivial
open PySem.Calls PySem.Spec
/-- an exception just raised: no traceback yet; c is its context -/
structure Fresh (h h' : Heap) (e : Addr) (X : String) (c : Value) : Prop where
  keeps : ∀ b o, h.get? b = some o → h'.get? b = some o
  new : h.get? e = none
  there : ∃ ob vs, h'.get? e = some ob ∧ ob.cls = .type X ∧ ob.data = .fields vs ∧ vs[1]? = some .none ∧ vs[2]? = some c
theorem Fresh.ofNew {h h' : Heap} {e : Addr} {X : String} (x : Heap.NewExc h h' e X) : Fresh h h' e X .none :=
  ⟨x.keeps, x.new, let ⟨ob, _, h1, h2, h3⟩ := x.there; ⟨ob, _, h1, h2, h3, rfl, rfl⟩⟩
theorem Fresh.ofOver {h h' : Heap} {e d : Addr} {X : String} (x : ExcOver h h' e d X) : Fresh h h' e X (.ref d) :=
  ⟨x.keeps, x.new, let ⟨ob, _, h1, h2, h3⟩ := x.there; ⟨ob, _, h1, h2, h3, rfl, rfl⟩⟩
def CtxAt (h : Heap) (e : Addr) (c : Value) : Prop := ∃ ob vs, h.get? e = some ob ∧ ob.data = .fields vs ∧ vs[2]? = some c
theorem Frs1 {envc : Env} {Lc : Addr} {oc : Obj} (Fs : TI.Frs [envc] [(Lc, oc)]) : envc.scope.kind ≠ .module ∧ envc.frame = some Lc ∧ ∃ es ep, oc.data = .dict es ep := ⟨Fs.1, Fs.2.1, Fs.2.2.1⟩
section
variable {prog : Program} {w : World} {A A₂ : Around} {E : Value → Shared → Prop} {s' : Shared} {hb h : Heap} {L a e Lc : Addr} {oc : Obj} {envc : Env} {c : Value} {m : Str → Option Value} {name : Str} {scope : Scope} {cd : Value} {X : String} {new : List (Addr × Obj)}
theorem noted_fresh {Q : Unit → Shared → Prop} (hfr : A.frames = some [envOf name scope L a cd, envc]) (Fs : TI.Frs [envc] [(Lc, oc)]) (hx : Fresh h s'.heap e X c) (F : Fr hb L h m) (N : News hb L h (new ++ [(Lc, oc)])) (hne : ∀ p ∈ new, p.1 ≠ Lc)
    (k : ∀ h' sl, TT.HeldN hb L h' m e X (new ++ [(Lc, { oc with slots := sl })]) → CtxAt h' e c → Q () { s' with heap := h' }) (hk : scope.kind = .function) :
    wpAny (model prog w) A (noteFrame (.ref e) (envOf name scope L a cd)) Q E s' := by
  obtain ⟨ob, vs, he, hcls, hd, h1, h2⟩ := hx.there
  obtain ⟨hce, hcf, ces, cep, hcd⟩ := Frs1 Fs
  obtain ⟨oL, es, ep, hL, hLd, hLk, hLf⟩ := F.ns
  obtain ⟨hLc, hLcL, hLcb⟩ := N (Lc, oc) (List.mem_append_right _ List.mem_cons_self)
  have hL' := hx.keeps _ _ hL
  have hLc' := hx.keeps _ _ hLc
  have hbL : hb.get? L = none := Heap.get?_none_of_le F.above
  have ne_of : ∀ b o, h.get? b = some o → b ≠ e := fun b o hb' q => by rw [q, hx.new] at hb'; cases hb'
  have hff : s'.heap.FunFrames hb [envOf name scope L a cd, envc] :=
    ⟨by show scope.kind ≠ .module; rw [hk]; decide, ⟨L, oL, rfl, hbL, hL', fun vs q => by rw [hLd] at q; cases q⟩, hce, ⟨Lc, oc, hcf, hLcb, hLc', fun vs q => by rw [hcd] at q; cases q⟩, trivial⟩
  have hmem : ∀ b, b ≠ L → b ≠ Lc → b ∉ [envOf name scope L a cd, envc].filterMap (·.frame) := fun b q1 q2 hm => by
    have : [envOf name scope L a cd, envc].filterMap (·.frame) = [L, Lc] := TI.frames_are Fs
    rw [this] at hm
    rcases List.mem_cons.mp hm with q | hm
    · exact q1 q
    · exact q2 (List.mem_singleton.mp hm)
  unfold noteFrame
  simp only [show (envOf name scope L a cd).frame = some L from rfl]
  refine wpAny_bind (wpAny_field he hd h1 ?_)
  rw [if_neg (by decide)]
  refine wpAny_bind (wpAny_frameOf_fun hfr hff rfl fun h₁ hs₁ => ?_)
  refine wpAny_bind (wpAny_entryPlaceOf fun pl hpl => ?_)
  unfold EntryCells.newEntry newFields
  refine wpAny_bind (wpAny_newObj_type ?_ (hpl.sizeOk5 _ _ _ _ _))
  have heL : e ≠ L := (ne_of L _ hL).symm
  have heC : e ≠ Lc := (ne_of Lc _ hLc).symm
  have he₁ : h₁.get? e = some ob := (hs₁.2.1 e (hmem e heL heC)).trans he
  have hsz : 1 < vs.size := (Array.getElem?_eq_some_iff.mp h1).1
  generalize hTB : ({ cls := .type "traceback", dict := none, data := .fields ([Value.none, .ref L, .none, rawInt L, .none] ++ (if pl.isEmpty then List.replicate 6 Value.none else pl)).toArray } : Obj) = TB
  have hTd : TB.data = .fields ([Value.none, .ref L, .none, rawInt L, .none] ++ (if pl.isEmpty then List.replicate 6 Value.none else pl)).toArray := by rw [← hTB]
  have hTf : TB.isFreed = false := by rw [← hTB]; rfl
  have he₂ := Heap.get?_push_of_some (h := h₁) TB he₁
  refine wpAny_setField he₂ hd hsz ?_
  have hTe : h₁.objs.size ≠ e := Nat.ne_of_gt (Heap.lt_size he₁)
  have hd₃ := Obj.data_mapFields hd (·.setIfInBounds 1 (Value.ref h₁.objs.size))
  have he₃ := Heap.get?_update_self (Obj.mapFields (·.setIfInBounds 1 (Value.ref h₁.objs.size))) he₂ (Obj.isFreed_of_fields hd₃)
  have hT₃ := (Heap.get?_update_other (h₁.push TB) (Obj.mapFields (·.setIfInBounds 1 (Value.ref h₁.objs.size))) (Ne.symm hTe)).trans (Heap.get?_push_size h₁ hTf)
  have keep : ∀ b o, b ≠ e → h₁.get? b = some o → ((h₁.push TB).update e (Obj.mapFields (·.setIfInBounds 1 (Value.ref h₁.objs.size)))).get? b = some o := fun b o hbe hb => by
    rw [Heap.get?_update_other _ _ (Ne.symm hbe)]
    exact Heap.get?_push_of_some _ hb
  have keep' : ∀ b o, b ≠ L → b ≠ Lc → h.get? b = some o → ((h₁.push TB).update e (Obj.mapFields (·.setIfInBounds 1 (Value.ref h₁.objs.size)))).get? b = some o := fun b o q1 q2 hb' =>
    keep b o (ne_of b o hb') ((hs₁.2.1 b (hmem b q1 q2)).trans (hx.keeps b o hb'))
  obtain ⟨sl, hsl⟩ := hs₁.2.2 L oL hL'
  obtain ⟨slc, hslc⟩ := hs₁.2.2 Lc oc hLc'
  have hTnew : ∀ b o, h.get? b = some o → b ≠ h₁.objs.size := fun b o hb' q => by
    have hlt := Heap.lt_size (hx.keeps b o hb')
    rw [← hs₁.1, ← q] at hlt
    exact Nat.lt_irrefl _ hlt
  refine k _ slc ⟨⟨⟨⟨_, es, ep, keep L _ (Ne.symm heL) hsl, hLd, hLk, hLf⟩, fun b o hb' => keep' b o (fun q => by rw [q, hbL] at hb'; cases hb') (fun q => by rw [q, hLcb] at hb'; cases hb') (F.keep b o hb'), F.above⟩,
    ⟨_, _, h₁.objs.size, TB, _, he₃, (Obj.cls_mapFields _ _).trans hcls, hd₃, by simp [hsz], hT₃, hTd, by simp, (hTnew L _ hL).symm, hTe, ?_⟩, ?_⟩, fun p hp => ?_, ?_⟩ ⟨_, _, he₃, hd₃, by rw [Array.getElem?_setIfInBounds_ne (by decide)]; exact h2⟩
  · cases hq : hb.get? h₁.objs.size with
    | none => rfl
    | some o => exact absurd rfl (hTnew _ _ (F.keep _ _ hq))
  · cases hq : hb.get? e with
    | none => rfl
    | some o => have := F.keep _ _ hq; rw [hx.new] at this; cases this
  · rcases List.mem_append.mp hp with hp | hp
    · obtain ⟨p1, p2, p3⟩ := N p (List.mem_append_left _ hp)
      exact ⟨keep' p.1 p.2 p2 (hne p hp) p1, p2, p3⟩
    · rw [List.mem_singleton.mp hp]
      exact ⟨keep Lc _ (Ne.symm heC) hslc, hLcL, hLcb⟩
  · intro ob' vs' tb' e1 e2 e3 p hp
    rw [he₃] at e1
    obtain rfl := Option.some.inj e1
    rw [hd₃] at e2
    injection e2 with e2
    subst e2
    have e4 : some (Value.ref h₁.objs.size) = some (Value.ref tb') := by simpa [hsz] using e3
    injection e4 with e4
    injection e4 with e4
    rw [← e4]
    rcases List.mem_append.mp hp with hp | hp
    · exact hTnew _ _ (N p (List.mem_append_left _ hp)).1
    · rw [List.mem_singleton.mp hp]
      exact hTnew _ _ hLc
/-- in flight through the frame L: raised just now, or noted by it -/
def Rsd (hb : Heap) (L Lc : Addr) (oL : Obj) (m : Str → Option Value) (new : List (Addr × Obj)) (e : Addr) (X : String) (c : Value) (h : Heap) : Prop :=
  ∃ sl, (∃ h1, Fresh h1 h e X c ∧ Fr hb L h1 m ∧ News hb L h1 (new ++ [(Lc, { oL with slots := sl })])) ∨ (TT.HeldN hb L h m e X (new ++ [(Lc, { oL with slots := sl })]) ∧ CtxAt h e c)
theorem rsd_noted {Q : Unit → Shared → Prop} (R : Rsd hb L Lc oc m new e X c s'.heap) (hfr : A.frames = some [envOf name scope L a cd, envc]) (Fs : TI.Frs [envc] [(Lc, oc)]) (hne : ∀ p ∈ new, p.1 ≠ Lc) (hk : scope.kind = .function)
    (k : ∀ h' sl, TT.HeldN hb L h' m e X (new ++ [(Lc, { oc with slots := sl })]) → CtxAt h' e c → Q () { s' with heap := h' }) :
    wpAny (model prog w) A (noteFrame (.ref e) (envOf name scope L a cd)) Q E s' := by
  obtain ⟨sl, ⟨h1, hx, F, N⟩ | ⟨H, C⟩⟩ := R
  · have Fs' : TI.Frs [envc] [(Lc, { oc with slots := sl })] := Fs.up ⟨rfl, ⟨sl, rfl⟩, trivial⟩
    exact noted_fresh hfr Fs' hx F N hne (fun h' sl' H => k h' sl' H) hk
  · exact noted_again H.held fun _ _ => k _ sl H C
theorem HeldNA_fly {fl : Value} {news : List (Addr × Obj)} {fr : Option Addr} (H : TT.HeldNA hb L s'.heap m e X news fl) (C : CtxAt s'.heap e c) {M : Model} {Q : Unit → Shared → Prop} (k : ∀ h', TT.HeldNA hb L h' m e X news (fr.elim .none fun f => rawInt f) → CtxAt h' e c → Q () { s' with heap := h' }) :
    wpAny M A (setFlight (.ref e) fr) Q E s' := by
  obtain ⟨⟨F, ⟨ob, vs, tb, otb, tvs, he, hcls, hd, h1, htb, htd, h3, htbL, htbe, htb0⟩, hf⟩, N, hap⟩ := H
  obtain ⟨oc', vc, c1, c2, c3⟩ := C
  have hsz : 3 < tvs.size := (Array.getElem?_eq_some_iff.mp h3).1
  have happ := hap ob vs tb he hd h1
  obtain ⟨oL, esL, epL, hL, hLd, hLk, hLf⟩ := F.ns
  unfold setFlight
  refine wpAny_bind (wpAny_field he hd h1 ?_)
  rw [if_pos (show (Value.ref tb != Value.none) = true from by simp)]
  generalize (fr.elim Value.none fun f => rawInt f) = nf at k ⊢
  have he' : ∀ o, s'.heap.get? e = some o → (s'.heap.update tb (Obj.mapFields (·.setIfInBounds 3 nf))).get? e = some o := fun o q => (Heap.get?_update_ne s'.heap _ _ _ htbe.symm).trans q
  have F' : Fr hb L (s'.heap.update tb (Obj.mapFields (·.setIfInBounds 3 nf))) m :=
    ⟨⟨oL, esL, epL, (Heap.get?_update_ne _ _ _ _ htbL.symm).trans hL, hLd, hLk, hLf⟩,
     fun b o hb => (Heap.get?_update_ne _ _ _ _ (fun q => by rw [q, htb0] at hb; cases hb)).trans (F.keep b o hb), F.above⟩
  refine wpAny_setField htb htd hsz (k _ ⟨⟨F', ⟨ob, vs, tb, _, _, he' _ he, hcls, hd, h1,
    Heap.get?_update_self _ htb (Obj.isFreed_of_fields (Obj.data_mapFields htd _)), Obj.data_mapFields htd _, by simp [hsz], htbL, htbe, htb0⟩, hf⟩,
    fun p hp => ⟨(Heap.get?_update_ne _ _ _ _ (happ p hp)).trans (N p hp).1, (N p hp).2⟩, ?_⟩ ⟨oc', vc, he' _ c1, c2, c3⟩)
  intro ob' vs' tb' e1 e2 e3 p hp
  rw [he' _ he] at e1
  obtain rfl := Option.some.inj e1
  exact hap ob vs' tb' he e2 e3 p hp
theorem HeldNA_passed {fl : Value} {news : List (Addr × Obj)} (H : TT.HeldNA hb L s'.heap m e X news fl) (C : CtxAt s'.heap e c) {α : Type} {Q : α → Shared → Prop} {what : String} (k : ∀ h', TT.HeldN hb L h' m e X news → CtxAt h' e c → E (.ref e) { s' with heap := h' }) :
    wpAny (model prog w) A (PySem.passOn what (.ref e) (envOf name scope L a cd) : Sem α) Q E s' := by
  have H' := H
  obtain ⟨⟨F, ⟨ob, vs, tb, otb, tvs, he, hcls, hd, h1, htb, htd, h3, htbL, htbe, htb0⟩, hf⟩, N, hap⟩ := H
  unfold PySem.passOn
  refine wpAny_bind (wpAny_field he hd h1 ?_)
  rw [if_neg (show ¬ ((Value.ref tb == Value.none) = true) from by simp)]
  exact wpAny_bind (HeldNA_fly (fr := some L) H' C fun h' H'' C' => wpAny_throw (k h' H'' C'))
theorem HeldNA_sub {fl : Value} {news news' : List (Addr × Obj)} (H : TT.HeldNA hb L h m e X news fl) (hs : ∀ p ∈ news', p ∈ news) : TT.HeldNA hb L h m e X news' fl :=
  ⟨H.held, fun p hp => H.made p (hs p hp), fun ob vs tb e1 e2 e3 p hp => H.apart ob vs tb e1 e2 e3 p (hs p hp)⟩
theorem HeldNA_back {fl : Value} {news : List (Addr × Obj)} (H : TT.HeldNA hb L s'.heap m e X news fl) (C : CtxAt s'.heap e c) (k : ∀ h', TT.HeldN hb L h' m e X news → CtxAt h' e c → E (.ref e) { s' with heap := h' }) :
    cameBackBy (model prog w) A (envOf name scope L a cd) E (.ref e) s' := by
  have H' := H
  obtain ⟨⟨F, ⟨ob, vs, tb, otb, tvs, he, hcls, hd, h1, htb, htd, h3, htbL, htbe, htb0⟩, hf⟩, N, hap⟩ := H
  unfold cameBackBy
  refine wpAny_bind (wpAny_field he hd h1 ?_)
  rw [if_neg (show ¬ ((Value.ref tb == Value.none) = true) from by simp)]
  exact HeldNA_fly (fr := some L) H' C k
theorem rsd_own (R : Rsd hb L Lc oc m new e X c s'.heap) (hfr : A.frames = some [envOf name scope L a cd, envc]) (Fs : TI.Frs [envc] [(Lc, oc)]) (hne : ∀ p ∈ new, p.1 ≠ Lc) (hk : scope.kind = .function)
    (k : ∀ h', Rsd hb L Lc oc m new e X c h' → E (.ref e) { s' with heap := h' }) :
    notedBy (model prog w) A (envOf name scope L a cd) (cameBackBy (model prog w) A₂ (envOf name scope L a cd) E) (.ref e) s' := by
  unfold notedBy
  exact rsd_noted R hfr Fs hne hk fun h' sl H C => HeldNA_back (s' := { s' with heap := h' }) H C fun h'' H' C' => k h'' ⟨sl, .inr ⟨H', C'⟩⟩
/-- fewer objects told -/
theorem rsd_own_sub {new' : List (Addr × Obj)} (R : Rsd hb L Lc oc m new e X c s'.heap) (hfr : A.frames = some [envOf name scope L a cd, envc]) (Fs : TI.Frs [envc] [(Lc, oc)]) (hne : ∀ p ∈ new, p.1 ≠ Lc) (hk : scope.kind = .function) (hs : ∀ p ∈ new', p ∈ new)
    (k : ∀ h', Rsd hb L Lc oc m new' e X c h' → E (.ref e) { s' with heap := h' }) :
    notedBy (model prog w) A (envOf name scope L a cd) (cameBackBy (model prog w) A₂ (envOf name scope L a cd) E) (.ref e) s' := by
  unfold notedBy
  refine rsd_noted R hfr Fs hne hk fun h' sl H C => HeldNA_back (s' := { s' with heap := h' }) H C fun h'' H' C' => k h'' ⟨sl, .inr ⟨HeldNA_sub H' fun p hp => ?_, C'⟩⟩
  rcases List.mem_append.mp hp with hp | hp
  · exact List.mem_append_left _ (hs p hp)
  · exact List.mem_append_right _ hp
/-- what is held joins the ledger -/
theorem HeldNA_ledger {news : List (Addr × Obj)} (H : TT.HeldNA hb L h m e X news .none) (C : CtxAt h e c) : ∃ ob vs tb otb tvs, ob.cls = .type X ∧ ob.data = .fields vs ∧ vs[1]? = some (.ref tb) ∧ vs[2]? = some c ∧ otb.data = .fields tvs ∧ tvs[3]? = some .none ∧ tb ≠ e ∧ Fr hb L h m ∧ News hb L h ((e, ob) :: (tb, otb) :: news) ∧ (∀ p ∈ news, p.1 ≠ tb) := by
  have hne := H.held.ne
  obtain ⟨⟨F, ⟨ob, vs, tb, otb, tvs, he, hcls, hd, h1, htb, htd, h3, htbL, htbe, htb0⟩, hf⟩, N, hap⟩ := H
  obtain ⟨oc', vc, c1, c2, c3⟩ := C
  rw [he] at c1
  obtain rfl := Option.some.inj c1
  rw [hd] at c2
  injection c2 with c2
  subst c2
  refine ⟨ob, vs, tb, otb, tvs, hcls, hd, h1, c3, htd, h3, htbe, F, fun p hp => ?_, hap ob vs tb he hd h1⟩
  rcases List.mem_cons.mp hp with rfl | hp
  · exact ⟨he, hne, hf⟩
  · rcases List.mem_cons.mp hp with rfl | hp
    · exact ⟨htb, htbL, htb0⟩
    · exact N p hp
theorem HeldNA_of {news : List (Addr × Obj)} {ob otb : Obj} {vs tvs : Array Value} {tb : Addr} (F : Fr hb L h m) (N : News hb L h ((e, ob) :: (tb, otb) :: news)) (hcls : ob.cls = .type X) (hd : ob.data = .fields vs) (h1 : vs[1]? = some (.ref tb)) (h2 : vs[2]? = some c) (htd : otb.data = .fields tvs) (h3 : tvs[3]? = some .none) (hte : tb ≠ e) (hn : ∀ p ∈ news, p.1 ≠ tb) :
    TT.HeldNA hb L h m e X news .none ∧ CtxAt h e c := by
  obtain ⟨he, _, he0⟩ := N _ (.head _)
  obtain ⟨ht, htL, ht0⟩ := N _ (.tail _ (.head _))
  refine ⟨⟨⟨F, ⟨ob, vs, tb, otb, tvs, he, hcls, hd, h1, ht, htd, h3, htL, hte, ht0⟩, he0⟩, fun p hp => N p (.tail _ (.tail _ hp)), fun ob' vs' tb' e1 e2 e3 p hp => ?_⟩, ob, vs, he, hd, h2⟩
  rw [he] at e1
  obtain rfl := Option.some.inj e1
  rw [hd] at e2
  injection e2 with e2
  subst e2
  rw [h1] at e3
  injection e3 with e3
  injection e3 with e3
  subst e3
  exact hn p hp
end

end Mine
end

-- M3
section
namespace Mine

theorem lines_M3_0 : True := by
  k_with_none
  trivial
open PySem.Calls PySem.Spec
section
variable {prog : Program} {w : World} {A : Around} {E : Value → Shared → Prop} {s : Shared} {h₀ : Heap} {L : Addr} {m : Str → Option Value} {news : List (Addr × Obj)}
theorem code_defT {K : Frag} {p : Program} {loose : List Str} {mean : ExcName → Option Value} {mg mb : Str → Option Value} {env : Env}
    {R : Result → Shared → Prop} {name qual : Str} {params : Arguments} {body : List Stmt} {scope : Scope} {dV kV doc pm cdv ct oc : Value} {an od : Option Addr} {osl : Array (Option Value)} {f : Addr} {args : Args} {binds : List (Str × Value)}
    (F : Fr h₀ L s.heap m) (X₀ : K.In h₀) (N : News h₀ L s.heap news) (T : Top p loose mean mg mb h₀) (hf : env.frame = some L) (hke : env.scope.kind = .function)
    (ho : K.lookup f = some ⟨oc, od, .func (fnOf name qual params body scope dV kV doc pm an cdv ct), osl⟩) (hcd : codeIn K cdv qual = true) (hroom : A.depth < recursionLimit)
    (hbind : BindsTo s (fnOf name qual params body scope dV kV doc pm an cdv ct) args binds) (hloc : ∀ y ∈ binds, scope.names.lookup y.1 = some .local)
    (h : ∀ oL L' h₁, TI.Caller h₀ L m oL → TI.Frs [env] [(L, oL)] → (∀ p ∈ news, p.1 ≠ L) → L < L' → (∀ p ∈ news, p.1 < L') → Fr h₀ L' h₁ (fun y => binds.reverse.lookup y) → News h₀ L' h₁ (news ++ [(L, oL)]) →
      wpAny (model prog w) (A.deeper (envOf qual scope L' f cdv)) (execs body (envOf qual scope L' f cdv))
        (fun fl s' => TI.LeaveI s' (R (.ok (.ret (match fl with | .ret v => v | _ => .none))) s')) (fun _ _ => False)
        { s with heap := h₁, toks := s.toks + binds.length })
    (hco : scope.isCoroutine = false) (hgen : scope.isGenerator = false) (hk : scope.kind = .function)
    (hcell : ∀ x ∈ scope.names, x.2 ≠ .cell) : codeAny (model prog w) A (.call (.ref f) args) R s := by
  have X := X₀.keeps F.keep
  obtain ⟨oL, es, ep, hL, hLd, hLk, hLf⟩ := F.ns
  have hLt := Heap.lt_size hL
  refine codeAny_call_def (fd := fnOf name qual params body scope dV kV doc pm an cdv ct) (body := body) (binds := binds) hroom (X _ _ ho) rfl (T.nolimit.keeps F.keep) (codeRec_of X hcd) rfl hbind hcell hloc (fun h₁ hns hk₁ => ?_) hco hgen hk
  have up : ∀ b o, s.heap.get? b = some o → h₁.get? b = some o := fun b o e => hk₁ b o e
  refine wpAny_mono (h oL s.heap.objs.size h₁ ⟨fun h' sl e => ⟨_, es, ep, e, hLd, hLk, hLf⟩, ⟨es, ep, hLd⟩, F.above⟩ ⟨by rw [hke]; decide, hf, ⟨es, ep, hLd⟩, trivial⟩ (fun p hp => (N p hp).2.1) hLt (fun p hp => Heap.lt_size (N p hp).1)
    ⟨hns, fun b o e => up b o (F.keep b o e), Nat.le_trans F.above (Nat.le_of_lt hLt)⟩ (fun p hp => ?_)) (fun _ _ x => x) fun _ _ x => x.elim
  rcases List.mem_append.mp hp with hp | hp
  · obtain ⟨h1, h2, h3⟩ := N p hp
    exact ⟨up _ _ h1, Nat.ne_of_lt (Heap.lt_size h1), h3⟩
  · rcases List.mem_cons.mp hp with rfl | hp
    · exact ⟨up _ _ hL, Nat.ne_of_lt hLt, Heap.get?_none_of_le F.above⟩
    · exact nomatch hp
theorem item_out {value slice : PySem.Expr} {a : Addr} {vs : List Value} {xs : List Str} {i : Int} {u : Tok} {Q : Value → Shared → Prop} (hA : A.handled = none) (hl : s.heap.IsList a vs.toArray) (hi : StrsAre vs xs) (h0 : (xs.length : Int) ≤ i) (h1 : i ≤ 100000)
    (hE : ∀ h' tk e, Heap.NewExc s.heap h' e "IndexError" → E (.ref e) { s with heap := h', toks := tk })
    (hs : subscripted slice false (.ref a) (.int i u) = operate [.ref a, .int i u] (getItem (.ref a) (.int i u)) := by with_unfolding_all rfl) (hg : ∀ r, letTemporaryGo value (.ref a) r = pure () := by intro _; with_unfolding_all rfl) :
    wpAny (model prog w) A (subscriptTail value slice (.ref a) (.int i u)) Q E s := by
  have hsz : vs.toArray.size = xs.length := by rw [List.size_toArray]; exact hi.len_eq
  exact subscriptTail_builtin hl.typeIs slot_list_getitem.lookup (wpAny_getItem_list_out hA hl (.inr (by rw [hsz]; exact h0)) (by omega) (by omega) hE) hs hg
theorem item_in {value slice : PySem.Expr} {a : Addr} {vs : List Value} {xs : List Str} {x : Str} {i : Int} {u : Tok} {Q : Value → Shared → Prop} (hl : s.heap.IsList a vs.toArray) (hi : StrsAre vs xs) (h0 : 0 ≤ i) (h1 : i ≤ 100000) (hx : xs[i.toNat]? = some x)
    (h : ∀ t, Q (.str x t) s)
    (hs : subscripted slice false (.ref a) (.int i u) = operate [.ref a, .int i u] (getItem (.ref a) (.int i u)) := by with_unfolding_all rfl) (hg : ∀ r, letTemporaryGo value (.ref a) r = pure () := by intro _; with_unfolding_all rfl) :
    wpAny (model prog w) A (subscriptTail value slice (.ref a) (.int i u)) Q E s := by
  obtain ⟨t, ht⟩ := hi.at hx
  exact item_list hl h0 (by omega) (by simpa using ht) (h t) hs hg
/-- a while whose test fails at once, or raises -/
def WQ (Q : Flow → Shared → Prop) (b : Bool) (s : Shared) : Prop := b = false ∧ Q .next s
theorem wh_none {env : Env} {test : PySem.Expr} {body : List Stmt} {pos : Pos} {Q : Flow → Shared → Prop} (hE : PassesOwn (model prog w) A env E) (h : wpAny (model prog w) A (isTrue test env (eval test env)) (WQ Q) E s) :
    wpAny (model prog w) A (exec (.While test body [] pos) env) Q E s := by
  refine wpAny_While (codeAny_whileLoop (fun _ s' => s' = s) ?_ 0 rfl)
  rintro n s' rfl
  refine wpAny_mono h (fun b s₂ h₂ => ?_) hE
  obtain ⟨rfl, hq⟩ := h₂
  simp only [Bool.false_eq_true, if_false]
  exact wpAny_execs_nil hq
theorem strs_drop {vs : List Value} {xs : List Str} (hi : StrsAre vs xs) : ∀ n, StrsAre (vs.drop n) (xs.drop n) := by
  induction hi with
  | nil => intro n; simp only [List.drop_nil]; exact .nil
  | cons y t h ih =>
    intro n
    cases n with
    | zero => exact .cons y t h
    | succ n => exact ih n
theorem slice_from {vs : List Value} {x : Int} (h : 0 ≤ x) : (slicePick vs.toArray (some x) none none).toList = vs.drop x.toNat := by
  have e : sliceBounds (some x) none none vs.toArray.size = (((min x.toNat vs.toArray.size : Nat) : Int), ((vs.toArray.size : Nat) : Int), 1) := by
    simp only [sliceBounds, Option.getD_none, show (1 : Int) > 0 by decide, if_true, if_neg (show ¬ (x < 0) by omega)]
    congr 1
    omega
  rw [kmk_pick_nat _ e]
  show (vs.drop (min x.toNat vs.toArray.size)).take (vs.toArray.size - min x.toNat vs.toArray.size) = _
  rw [List.size_toArray, kmk_drop_min, List.take_of_length_le (by rw [List.length_drop]; omega)]
end
theorem allLt_in {d : Nat} {l : List (Addr × Obj)} (h : AllLt d l) : ∀ p ∈ l, @LT.lt Nat instLTNat p.1 d := by
  induction l with
  | nil => intro p hp; cases hp
  | cons q r ih =>
    intro p hp
    rcases List.mem_cons.mp hp with rfl | hp
    · exact h.1
    · exact ih h.2 p hp
abbrev dfM (mi ue ex ac : Nat) (i j : Int) (ti tj : Nat) (oe oa : Option Value) : Str → Option Value := fun y =>
  if y = Str.ofString "i" then some (.int i ti) else if y = Str.ofString "j" then some (.int j tj) else if y = Str.ofString "e" then oe else if y = Str.ofString "a" then oa else
  if y = Str.ofString "unexpected" then some (.ref ue) else if y = Str.ofString "missing" then some (.ref mi) else List.lookup y [(Str.ofString "expected", Value.ref ex), (Str.ofString "actual", Value.ref ac)].reverse

end Mine
end

-- P4
section
namespace Mine
/-- the order of texts -/
def SLt (x y : Str) : Prop := x.cps.toList < y.cps.toList
theorem SLt.irrefl (x : Str) : ¬ SLt x x := List.lt_irrefl _
theorem SLt.trans {x y z : Str} (h : SLt x y) (h' : SLt y z) : SLt x z := List.lt_trans h h'
theorem SLt.ne {x y : Str} (h : SLt x y) : x ≠ y := fun e => SLt.irrefl y (e ▸ h)
theorem SLt.tri {x y : Str} (h : ¬ SLt x y) (h' : ¬ SLt y x) : x = y := by
  have e : x.cps.toList = y.cps.toList := List.le_antisymm (List.not_lt.mp h') (List.not_lt.mp h)
  cases x; cases y
  simpa using e
abbrev Rising (xs : List Str) : Prop := xs.Pairwise SLt
abbrev less (xs ys : List Str) : List Str := xs.filter fun x => decide (x ∉ ys)
theorem less_nil (xs : List Str) : less xs [] = xs := by
  unfold less
  rw [List.filter_eq_self]
  intro a _
  simp
structure DInv (xs ys : List Str) (i j : Nat) (ms us : List Str) : Prop where
  left : less xs ys = ms ++ less (xs.drop i) (ys.drop j)
  right : less ys xs = us ++ less (ys.drop j) (xs.drop i)
  hi : i ≤ xs.length
  hj : j ≤ ys.length
theorem DInv.zero (xs ys : List Str) : DInv xs ys 0 0 [] [] := ⟨by simp, by simp, Nat.zero_le _, Nat.zero_le _⟩
theorem DInv.swap {xs ys ms us : List Str} {i j : Nat} (h : DInv xs ys i j ms us) : DInv ys xs j i us ms := ⟨h.right, h.left, h.hj, h.hi⟩
theorem drop_get {xs : List Str} {i : Nat} {x : Str} (h : xs[i]? = some x) : xs.drop i = x :: xs.drop (i + 1) := by
  obtain ⟨hi, rfl⟩ := List.getElem?_eq_some_iff.mp h
  exact List.drop_eq_getElem_cons hi
theorem Rising.drop {xs : List Str} (h : Rising xs) (i : Nat) : Rising (xs.drop i) := h.sublist (List.drop_sublist i xs)
theorem less_head {x : Str} {xs ys : List Str} (h : x ∉ ys) : less (x :: xs) ys = x :: less xs ys := by simp [less, h]
theorem less_head_in {x : Str} {xs ys : List Str} (h : x ∈ ys) : less (x :: xs) ys = less xs ys := by simp [less, h]
theorem less_apart {x : Str} {xs ys : List Str} (h : x ∉ ys) : less ys (x :: xs) = less ys xs := by
  unfold less
  apply List.filter_congr
  intro a ha
  have : a ≠ x := fun e => h (e ▸ ha)
  simp [this]
theorem lt_notin {x y : Str} {yr : List Str} (hr : Rising (y :: yr)) (h : SLt x y) : x ∉ y :: yr := by
  intro hm
  rcases List.mem_cons.mp hm with e | hm
  · exact h.ne e
  · exact (h.trans (List.rel_of_pairwise_cons hr hm)).ne rfl
theorem DInv.lt {xs ys ms us : List Str} {i j : Nat} {x y : Str} (h : DInv xs ys i j ms us) (hy' : Rising ys) (hx : xs[i]? = some x) (hy : ys[j]? = some y) (hl : SLt x y) : DInv xs ys (i + 1) j (ms ++ [x]) us := by
  have hn : x ∉ ys.drop j := by
    have hr := Rising.drop hy' j
    rw [drop_get hy] at hr ⊢
    exact lt_notin hr hl
  refine ⟨?_, ?_, (List.getElem?_eq_some_iff.mp hx).1, h.hj⟩
  · rw [h.left, drop_get hx, less_head hn, List.append_assoc]; rfl
  · rw [h.right, drop_get hx, less_apart hn]
theorem DInv.gt {xs ys ms us : List Str} {i j : Nat} {x y : Str} (h : DInv xs ys i j ms us) (hx' : Rising xs) (hx : xs[i]? = some x) (hy : ys[j]? = some y) (hl : SLt y x) : DInv xs ys i (j + 1) ms (us ++ [y]) :=
  (h.swap.lt hx' hy hx hl).swap
theorem head_notin {x : Str} {xr : List Str} (hr : Rising (x :: xr)) : x ∉ xr := fun hm => (List.rel_of_pairwise_cons hr hm).ne rfl
theorem less_eq {x : Str} {xr yr : List Str} (hr : Rising (x :: xr)) : less (x :: xr) (x :: yr) = less xr yr := by
  rw [less_head_in (List.mem_cons_self ..), less_apart (head_notin hr)]
theorem DInv.eq {xs ys ms us : List Str} {i j : Nat} {x : Str} (h : DInv xs ys i j ms us) (hx' : Rising xs) (hy' : Rising ys) (hx : xs[i]? = some x) (hy : ys[j]? = some x) : DInv xs ys (i + 1) (j + 1) ms us := by
  have hrx := Rising.drop hx' i
  have hry := Rising.drop hy' j
  rw [drop_get hx] at hrx
  rw [drop_get hy] at hry
  refine ⟨?_, ?_, (List.getElem?_eq_some_iff.mp hx).1, (List.getElem?_eq_some_iff.mp hy).1⟩
  · rw [h.left, drop_get hx, drop_get hy, less_eq hrx]
  · rw [h.right, drop_get hx, drop_get hy, less_eq hry]
theorem DInv.end_ {xs ys ms us : List Str} {i j : Nat} (h : DInv xs ys i j ms us) (he : xs.length ≤ i ∨ ys.length ≤ j) : ms ++ xs.drop i = less xs ys ∧ us ++ ys.drop j = less ys xs := by
  rcases he with e | e
  · have e' : xs.drop i = [] := List.drop_eq_nil_of_le e
    rw [h.left, h.right, e', less_nil]
    exact ⟨rfl, rfl⟩
  · have e' : ys.drop j = [] := List.drop_eq_nil_of_le e
    rw [h.left, h.right, e', less_nil]
    exact ⟨rfl, rfl⟩
theorem Rising.next {xs : List Str} {i : Nat} {x x' : Str} (h : Rising xs) (hx : xs[i]? = some x) (hx' : xs[i + 1]? = some x') : (x' == x) = false := by
  have hr := Rising.drop h i
  rw [drop_get hx, drop_get hx'] at hr
  have hl : SLt x x' := List.rel_of_pairwise_cons hr (List.mem_cons_self ..)
  refine beq_eq_false_iff_ne.mpr fun e => ?_
  refine SLt.irrefl x ?_
  unfold SLt at hl ⊢
  rw [e] at hl
  exact hl
end Mine
end

-- M4
section
namespace Mine

theorem lines_M4_0 : True := by
  k_with_none
  trivial
open PySem.Calls PySem.Spec
theorem dfM_i {mi ue ex ac : Nat} {i j i' : Int} {ti tj t' : Nat} {oe oa : Option Value} : (fun y => if y = Str.ofString "i" then some (Value.int i' t') else dfM mi ue ex ac i j ti tj oe oa y) = dfM mi ue ex ac i' j t' tj oe oa := by
  funext y
  dsimp only [dfM]
  by_cases h : y = Str.ofString "i" <;> simp only [h, if_true, if_false]
theorem dfM_j {mi ue ex ac : Nat} {i j i' : Int} {ti tj t' : Nat} {oe oa : Option Value} : (fun y => if y = Str.ofString "j" then some (Value.int i' t') else dfM mi ue ex ac i j ti tj oe oa y) = dfM mi ue ex ac i i' ti t' oe oa := by
  funext y
  dsimp only [dfM]
  by_cases h : y = Str.ofString "j"
  · subst h; rw [if_pos rfl, if_neg (by decide +kernel), if_pos rfl]
  · simp only [h, if_false]
theorem dfM_e {mi ue ex ac : Nat} {i j : Int} {ti tj : Nat} {oe oa : Option Value} {v : Value} : (fun y => if y = Str.ofString "e" then some v else dfM mi ue ex ac i j ti tj oe oa y) = dfM mi ue ex ac i j ti tj (some v) oa := by
  funext y
  dsimp only [dfM]
  by_cases h : y = Str.ofString "e"
  · subst h; rw [if_pos rfl, if_neg (by decide +kernel), if_neg (by decide +kernel), if_pos rfl]
  · simp only [h, if_false]
theorem dfM_a {mi ue ex ac : Nat} {i j : Int} {ti tj : Nat} {oe oa : Option Value} {v : Value} : (fun y => if y = Str.ofString "a" then some v else dfM mi ue ex ac i j ti tj oe oa y) = dfM mi ue ex ac i j ti tj oe (some v) := by
  funext y
  dsimp only [dfM]
  by_cases h : y = Str.ofString "a"
  · subst h; rw [if_pos rfl, if_neg (by decide +kernel), if_neg (by decide +kernel), if_neg (by decide +kernel), if_pos rfl]
  · simp only [h, if_false]
/-- the state between two turns -/
def DSt (mi ue ex ac : Nat) (vs : List Value) (k1 : Nat) (us : List Value) (k2 : Nat) (rest : List (Addr × Obj)) (i j : Nat) (ms ns : List Str) (m : Str → Option Value) (new : List (Addr × Obj)) : Prop :=
  ∃ ti tj oe oa uits ku mits km, m = dfM mi ue ex ac i j ti tj oe oa ∧ new = (ue, listOf uits ku) :: (mi, listOf mits km) :: (ex, listOf vs.toArray k1) :: (ac, listOf us.toArray k2) :: rest ∧ StrsAre mits.toList ms ∧ StrsAre uits.toList ns ∧ ms.length ≤ i ∧ ns.length ≤ j
abbrev DJ (mi ue ex ac : Nat) (vs : List Value) (k1 : Nat) (us : List Value) (k2 : Nat) (rest : List (Addr × Obj)) (xs ys : List Str) (Lc : Addr) (oL : Obj) (n : Nat) (m : Str → Option Value) (nw : List (Addr × Obj)) : Prop :=
  ∃ i j ms ns sl new, DSt mi ue ex ac vs k1 us k2 rest i j ms ns m new ∧ DInv xs ys i j ms ns ∧ nw = new ++ [(Lc, { oL with slots := sl })] ∧ n = (xs.length - i) + (ys.length - j)
def TP (h₀ : Heap) (L' : Addr) (s₀ : Shared) (mi ue ex ac : Nat) (vs : List Value) (k1 : Nat) (us : List Value) (k2 : Nat) (rest : List (Addr × Obj)) (xs ys : List Str) (Lc : Addr) (oL : Obj) (v : Value) (s : Shared) : Prop :=
  ∃ e c i j ms ns m new h tk, v = .ref e ∧ s = { s₀ with heap := h, toks := tk } ∧ DSt mi ue ex ac vs k1 us k2 rest i j ms ns m new ∧ DInv xs ys i j ms ns ∧ (xs.length ≤ i ∨ ys.length ≤ j) ∧ Rsd h₀ L' Lc oL m new e "IndexError" c h
def TQ (h₀ : Heap) (L' : Addr) (s₀ : Shared) (mi ue ex ac : Nat) (vs : List Value) (k1 : Nat) (us : List Value) (k2 : Nat) (rest : List (Addr × Obj)) (xs ys : List Str) (Lc : Addr) (oL : Obj) (n : Nat) (f : Flow) (s : Shared) : Prop :=
  f = .next ∧ ∃ h' tk m₂ news₂ n', s = { s₀ with heap := h', toks := tk } ∧ Fr h₀ L' h' m₂ ∧ News h₀ L' h' news₂ ∧ n' < n ∧ DJ mi ue ex ac vs k1 us k2 rest xs ys Lc oL n' m₂ news₂
theorem lines_M4_1 : True := by
  k_with "storeName" => (k_here; k_dflt (refine storeX_L (by k_asm) (by k_asm) ?_ rfl rfl); intro _ F' _; first | rw [dfM_i] at F' | rw [dfM_j] at F' | rw [dfM_e] at F' | rw [dfM_a] at F' | skip)
  k_with "subscriptTail Name Name ref int" => (k_here; k_dflt (first | (refine item_in (News.isList (by k_asm) (by k_mem)) (by assumption) (by omega) (by omega) (by assumption) ?_; intro _) | (refine item_out rfl (News.isList (by k_asm) (by k_mem)) (by assumption) (by omega) (by omega) ?_; intro _ _ _ _) | (refine item_over rfl (News.get (by k_asm) (.head _)) (by assumption) (by assumption) (News.isList (by k_asm) (by k_mem)) (by assumption) (by omega) (by omega) ?_; intro _ _ _ _)))
  k_with "subscriptTail Name Slice ref ref" => (k_here; (with_reducible show wpAny _ _ (subscriptTail _ (PySem.Expr.Slice _ _ none _) (Value.ref _) (Value.ref _)) _ _ _); k_dflt (refine' kmk_slice_lit (by k_asm) (by k_asm) (by exact News.isList (by k_asm) (by k_mem)) (by kmk_part) (by kmk_part) (by exact slice_from (by omega)) ?_ (by with_unfolding_all rfl) (by kmk_pure) (by rw [List.size_toArray, PySem.sizeLine_eq]; omega)); intro _ _ _ _ l1; (try k_lt l1); (try k_sweep))
  k_with "call builtin:list.extend" => (k_here; k_dflt (refine' extend_any (by k_asm) (by k_asm) (by k_mem) (fun _ => (by k_upd)) (by simp only [List.size_toArray, List.length_drop]; omega) ?_; k_whole); intro _ _ _ N'; (try dsimp only at N'); (try k_sweep))
  trivial
theorem tp_own {prog : Program} {w : World} {A A₂ : Around} {name : Str} {scope : Scope} {a : Addr} {cd : Value} {envc : Env} {h₀ : Heap} {L' : Addr} {s₀ : Shared} {mi ue ex ac : Nat} {vs : List Value} {k1 : Nat} {us : List Value} {k2 : Nat} {rest : List (Addr × Obj)} {xs ys : List Str} {Lc : Addr} {oL : Obj}
    (hfr : A.frames = some [envOf name scope L' a cd, envc]) (Fs : TI.Frs [envc] [(Lc, oL)]) (hne : ∀ (uits mits : Array Value) (ku km : Nat), ∀ p ∈ (ue, listOf uits ku) :: (mi, listOf mits km) :: (ex, listOf vs.toArray k1) :: (ac, listOf us.toArray k2) :: rest, p.1 ≠ Lc) (hk : scope.kind = .function) :
    PassesOwnAt (model prog w) A A₂ (envOf name scope L' a cd) (TP h₀ L' s₀ mi ue ex ac vs k1 us k2 rest xs ys Lc oL) := by
  rintro v s' ⟨e, c, i, j, ms, ns, m, new, h, tk, rfl, rfl, hS, hD, hend, R⟩
  have hS' := hS
  obtain ⟨ti, tj, oe, oa, uits, ku, mits, km, rfl, rfl, _⟩ := hS
  exact rsd_own R hfr Fs (hne _ _ _ _) hk fun h' R' => ⟨e, c, i, j, ms, ns, _, _, h', tk, rfl, rfl, hS', hD, hend, R'⟩
def EP (h₀ : Heap) (L' Lc : Addr) (oL : Obj) (s₀ : Shared) (m : Nat → Str → Option Value) (new : List (Addr × Obj)) (c : Value) (v : Value) (s : Shared) : Prop :=
  ∃ t e h tk, v = .ref e ∧ s = { s₀ with heap := h, toks := tk } ∧ Rsd h₀ L' Lc oL (m t) new e "IndexError" c h
theorem ep_own {prog : Program} {w : World} {A A₂ : Around} {name : Str} {scope : Scope} {a : Addr} {cd : Value} {envc : Env} {h₀ : Heap} {L' : Addr} {s₀ : Shared} {m : Nat → Str → Option Value} {new : List (Addr × Obj)} {c : Value} {Lc : Addr} {oL : Obj}
    (hfr : A.frames = some [envOf name scope L' a cd, envc]) (Fs : TI.Frs [envc] [(Lc, oL)]) (hne : ∀ p ∈ new, p.1 ≠ Lc) (hk : scope.kind = .function) :
    PassesOwnAt (model prog w) A A₂ (envOf name scope L' a cd) (EP h₀ L' Lc oL s₀ m new c) := by
  rintro v s' ⟨t, e, h, tk, rfl, rfl, R⟩
  exact rsd_own R hfr Fs hne hk fun h' R' => ⟨t, e, h', tk, rfl, rfl, R'⟩
theorem lines_M4_2 : True := by
  k_with "exec While Compare cons nil" => (k_here; k_dflt (refine' wh_none (by first | exact PassesOwn.never | exact tp_own rfl (by assumption) (by assumption) rfl | exact ep_own rfl (by assumption) (by assumption) rfl) ?_; k_whole))
  k_with "ite" => (k_here; first | (refine PySem.W.ite_pos (by with_reducible assumption) ?_) | (refine ite_isFalse (by with_reducible assumption) ?_))
  k_with "WQ" => (refine ⟨by assumption, ?_⟩)
  trivial
set_option maxRecDepth 100000 in
set_option maxHeartbeats 8000000 in
theorem diff_c (w : World) (mean : ExcName → Option Value) (mg mb : Str → Option Value) (rest : List (Addr × Obj)) (ex ac : Nat) (k1 k2 : Nat) (vs us : List Value) (xs ys : List Str) (hvs : StrsAre vs xs) (hus : StrsAre us ys) (hlx : xs.length ≤ 1000) (hly : ys.length ≤ 1000) (hrx : Rising xs) (hry : Rising ys) :
   ∀ (dp un : Nat) (gd : Option (List Code)) (cn : Str) (cs : Scope) (a : Addr) (ccd : Value) (cl : List (Str × Addr)) (h₀ : Heap) (L : Addr) (m : Str → Option Value) (s : Shared) (Q E : Value → Shared → Prop),
   Fr h₀ L s.heap m → (KF w.params).In h₀ → News h₀ L s.heap ((ex, listOf vs.toArray k1) :: (ac, listOf us.toArray k2) :: rest) → Top QV LO mean mg mb h₀ → cs.kind = .function → dp + 8 < recursionLimit → un + 64 < cLine →
   (∀ v h' tk' D mi ue uits ku mits km n, v = .ref D → StrsAre mits.toList (less xs ys) → StrsAre uits.toList (less ys xs) → Fr h₀ L h' m → News h₀ L h' ((D, { cls := .type "tuple", data := .seq #[.ref mi, .ref ue] n }) :: (ue, listOf uits ku) :: (mi, listOf mits km) :: (ex, listOf vs.toArray k1) :: (ac, listOf us.toArray k2) :: rest) → Q v { s with heap := h', toks := tk' }) →
    wpAny (model PySem.Challenge.rw_of0105_01.row.prog w) (ktrTop dp un gd cn cs L a ccd cl []) (call (.ref 775) [.ref ex, .ref ac]) Q E s := by
  k_fill
  intro dp un gd cn cs a ccd cl h₀ L m s Q E F X N T hk hdp hun hret
  have hlv : vs.length = xs.length := hvs.len_eq
  have hlu : us.length = ys.length := hus.len_eq
  refine wpAny_call ?_
  k_dflt (refine' code_defT (env := envX cn cs L a ccd cl) F X N T rfl hk ?k6 ?k7 ?k8 ?k9 ?kB ?_ ?c2 ?c3 ?c4 ?c5; (case k6 => k_is); (case k7 => k_is); (case k8 => ktr_room); (case k9 => exact kp_binds (binds := [(Str.ofString "expected", .ref ex), (Str.ofString "actual", .ref ac)]) (X.keeps F.keep) (fun S => by kernel_rfl)); (case c5 => decide); (case kB => exact locs rfl); (case c2 => exact rfl); (case c3 => exact rfl); (case c4 => exact rfl); k_whole; intro oL L' h' C' Fs' hne' hLL hlt' F' N'; (try dsimp only); (try k_fold))
  have hltr : AllLt L' rest := allLt_of fun p hp => hlt' p (by simp [hp])
  have hexL : @LT.lt Nat instLTNat ex L' := hlt' _ (.head _)
  have hacL : @LT.lt Nat instLTNat ac L' := hlt' _ (.tail _ (.head _))
  simp only [List.cons_append] at N'
  generalize hrs : rest ++ [(L, oL)] = rs at N'
  repeat' (first | (k_unfold; (try dsimp only)) | ((fail_if_success (with_reducible show wpAny _ _ (exec (Stmt.While _ _ _ _) _) _ _ _)); (first | walk1 | (dsimp only; walk1))))
  rename_i _ _ mi _ lt₁ _ _ ue _ F₈ N₈ lt₂ h₉ N₉
  (rename Fr _ _ _ _ => F₉)
  have hmi : ∀ p ∈ rs, p.1 ≠ mi := fun p hp => Nat.ne_of_lt (allLt_in lt₁.2.2 p hp)
  have hue : ∀ p ∈ rs, p.1 ≠ ue := fun p hp => Nat.ne_of_lt (allLt_in lt₂.2.2.2 p hp)
  refine While_inv2 (DJ mi ue ex ac vs k1 us k2 rest xs ys L oL) (n₀ := xs.length - 0 + (ys.length - 0)) F₉ N₉ ?_ ?_ PassesOwn.never
  · refine ⟨0, 0, [], [], oL.slots, _, ⟨s.toks + 2, s.toks + 2, none, none, #[], 0, #[], 0, ?_, rfl, .nil, .nil, Nat.le_refl _, Nat.le_refl _⟩, DInv.zero _ _, ?_, rfl⟩
    · funext y
      dsimp only [dfM]
      by_cases h1 : y = Str.ofString "i"
      · subst h1; rfl
      by_cases h2 : y = Str.ofString "j"
      · subst h2; rfl
      by_cases h3 : y = Str.ofString "e"
      · subst h3; rfl
      by_cases h4 : y = Str.ofString "a"
      · subst h4; rfl
      simp only [h1, h2, h3, h4, if_false]
    · rw [← hrs]; rfl
  have hLmi : @LT.lt Nat instLTNat L mi := allLt_in lt₁.2.2 (L, oL) (by rw [← hrs]; simp)
  have hLue : @LT.lt Nat instLTNat L ue := allLt_in lt₂.2.2.2 (L, oL) (by rw [← hrs]; simp)
  have hrmi : ∀ p ∈ rest, p.1 ≠ mi := fun p hp => hmi p (by rw [← hrs]; exact List.mem_append_left _ hp)
  have hrue : ∀ p ∈ rest, p.1 ≠ ue := fun p hp => hue p (by rw [← hrs]; exact List.mem_append_left _ hp)
  have hmiL : ∀ sl, ∀ p ∈ rest ++ [(L, ({ oL with slots := sl } : Obj))], p.1 ≠ mi := fun sl p hp => by
    rcases List.mem_append.mp hp with hp | hp
    · exact hrmi p hp
    · rw [List.mem_singleton.mp hp]; exact Nat.ne_of_lt hLmi
  have hueL : ∀ sl, ∀ p ∈ rest ++ [(L, ({ oL with slots := sl } : Obj))], p.1 ≠ ue := fun sl p hp => by
    rcases List.mem_append.mp hp with hp | hp
    · exact hrue p hp
    · rw [List.mem_singleton.mp hp]; exact Nat.ne_of_lt hLue
  have hneL : ∀ (uits mits : Array Value) (ku km : Nat), ∀ p ∈ (ue, listOf uits ku) :: (mi, listOf mits km) :: (ex, listOf vs.toArray k1) :: (ac, listOf us.toArray k2) :: rest, p.1 ≠ L := by
    intro uits mits ku km p hp
    rcases List.mem_cons.mp hp with rfl | hp
    · exact Nat.ne_of_gt hLue
    rcases List.mem_cons.mp hp with rfl | hp
    · exact Nat.ne_of_gt hLmi
    · exact hne' p hp
  have hlmi : @LT.lt Nat instLTNat ex mi ∧ @LT.lt Nat instLTNat ac mi := ⟨lt₁.1, lt₁.2.1⟩
  have hlue : @LT.lt Nat instLTNat mi ue ∧ @LT.lt Nat instLTNat ex ue ∧ @LT.lt Nat instLTNat ac ue := ⟨lt₂.1, lt₂.2.1, lt₂.2.2.1⟩
  clear F₉ N₉ F₈ N₈ hmi hue hrs lt₁ lt₂ rs
  rintro n m₁ nw₁ h₁ tk₁ F₁ N₁ ⟨i, j, ms, ns, sl, _, ⟨ti, tj, oe, oa, uits, ku, mits, km, rfl, rfl, hms, hns, hmi', hnj'⟩, hD, rfl, hn⟩
  simp only [List.cons_append] at N₁
  have hi := hD.hi
  have hj := hD.hj
  repeat' (first | (k_unfold; (try dsimp only)) | ((fail_if_success (with_reducible show wpAny _ _ (exec (Stmt.Try _ _ _ _ _) _) _ _ _)); (first | walk1 | (dsimp only; walk1))))
  refine wpAny_Try_except ?_
  refine wpAny_mono (Q := TQ h₀ L' s mi ue ex ac vs k1 us k2 rest xs ys L oL n) (E := TP h₀ L' s mi ue ex ac vs k1 us k2 rest xs ys L oL) ?body ?nx ?rs
  case nx =>
    rintro f s₃ ⟨rfl, h', tk, m₂, news₂, n', rfl, F₂, N₂, hn', J₂⟩
    exact wpAny_execs_nil (wpAny_execs_nil ⟨h', tk, m₂, news₂, n', rfl, F₂, N₂, hn', J₂⟩)
  case rs =>
    --{
    clear F₁ N₁ hms hns hi hj hD hn hmi' hnj'
    rintro v s₁ ⟨e, c, i, j, ms, ns, m₁, new, h, tk, rfl, rfl, ⟨ti, tj, oe, oa, uits, ku, mits, km, rfl, rfl, hms, hns, hmi', hnj'⟩, hD, hend, R⟩
    refine rsd_noted R rfl Fs' (hneL _ _ _ _) rfl fun h₂ sl H _ => ?_
    refine TT.HeldNA.land H fun h₃ H' => ?_
    refine TT.clause_hitTN H' T (k := fun h₄ F₄ N₄ => ?_) (hv := by boot_by_name)
    simp only [List.cons_append] at N₄
    clear R H H'
    have hrmi' := hmiL sl
    have hrue' := hueL sl
    generalize hrs : rest ++ [(L, { oL with slots := sl })] = rs at N₄ hrmi' hrue'
    have hi := hD.hi
    have hj := hD.hj
    have hmz : mits.size = ms.length := by rw [← hms.len_eq, Array.length_toList]
    have huz : uits.size = ns.length := by rw [← hns.len_eq, Array.length_toList]
    k_steps
    dsimp only [WhileStep2]
    k_steps
    rename_i D2 _ _ _ n1 _ D1 _ _ n2 D h9 F9 N9 lt9
    subst hrs
    obtain ⟨hl, hr⟩ := hD.end_ hend
    refine TLg.leave_back (new := (D, { cls := .type "tuple", data := .seq #[.ref mi, .ref ue] }) :: (ue, listOf (uits.toList ++ us.drop j).toArray n2) :: (mi, listOf (mits.toList ++ vs.drop i).toArray n1) :: (ex, listOf vs.toArray k1) :: (ac, listOf us.toArray k2) :: rest) (sl := sl) C' F9 (fun p hp => N9 p ?_) (TLgL.allNe_of ?_) fun F N => ?_
    · simp only [List.mem_cons, List.mem_append, List.cons_append, Int.toNat_natCast] at hp ⊢
      rcases hp with h | h | h | h | h | h | h <;> simp only [h, true_or, or_true]
    · intro p hp
      rcases List.mem_cons.mp hp with rfl | hp
      · exact Nat.ne_of_gt (by omega)
      · exact hneL _ _ _ _ p hp
    · exact hret _ _ _ D mi ue _ _ _ _ _ rfl (by rw [← hl]; exact StrsAre.append' hms (strs_drop hvs i)) (by rw [← hr]; exact StrsAre.append' hns (strs_drop hus j)) F N
    --}
  case body =>
    have hmz : mits.size = ms.length := by rw [← hms.len_eq, Array.length_toList]
    have huz : uits.size = ns.length := by rw [← hns.len_eq, Array.length_toList]
    have hrmi' := hmiL sl
    have hrue' := hueL sl
    generalize hrs : rest ++ [(L, { oL with slots := sl })] = rs at N₁ hrmi' hrue'
    by_cases c1 : xs.length ≤ i
    · have c1' : (xs.length : Int) ≤ i := by omega
      --{
      k_steps
      rename_i h8 tk8 e8 x8
      subst hrs
      exact ⟨e8, _, i, j, ms, ns, _, _, _, _, rfl, rfl, ⟨_, _, _, _, _, _, _, _, rfl, rfl, hms, hns, hmi', hnj'⟩, hD, .inl c1, sl, .inl ⟨_, Fresh.ofNew x8, F₁, N₁⟩⟩
      --}
    obtain ⟨x, hx⟩ : ∃ x, xs[i]? = some x := ⟨_, List.getElem?_eq_getElem (by omega)⟩
    have hx' : xs[(i : Int).toNat]? = some x := hx
    by_cases c2 : ys.length ≤ j
    · have c2' : (ys.length : Int) ≤ j := by omega
      --{
      k_steps
      rename_i N8 h8 tk8 e8 x8
      (rename Fr _ _ _ _ => F8)
      subst hrs
      exact ⟨e8, _, i, j, ms, ns, _, _, _, _, rfl, rfl, ⟨_, _, _, _, _, _, _, _, rfl, rfl, hms, hns, hmi', hnj'⟩, hD, .inr c2, sl, .inl ⟨_, Fresh.ofNew x8, F8, N8⟩⟩
      --}
    obtain ⟨y, hy⟩ : ∃ y, ys[j]? = some y := ⟨_, List.getElem?_eq_getElem (by omega)⟩
    have hy' : ys[(j : Int).toNat]? = some y := hy
    by_cases c3 : SLt x y
    · have c3' : (decide (x.cps.toList < y.cps.toList)) = true := decide_eq_true c3
      --{
      by_cases c4 : xs.length ≤ i + 1
      · have c4' : (xs.length : Int) ≤ (i : Int) + 1 := by omega
        k_steps
        rename_i t7 _ _ _ _ _ _ _ _ N8 h8 tk8 e8 x8
        (rename Fr _ _ _ _ => F8)
        subst hrs
        exact ⟨e8, _, i + 1, j, ms ++ [x], ns, _, _, _, _, rfl, rfl, ⟨_, _, _, _, _, _, _, _, rfl, rfl, by rw [Array.toList_push]; exact StrsAre.append' hms (.cons x _ .nil), hns, by simp; omega, hnj'⟩, hD.lt hry hx hy c3, .inl c4, sl, .inl ⟨_, Fresh.ofNew x8, F8, N8⟩⟩
      · obtain ⟨z, hz⟩ : ∃ z, xs[i + 1]? = some z := ⟨_, List.getElem?_eq_getElem (by omega)⟩
        have hz' : xs[((i : Int) + 1).toNat]? = some z := hz
        have hzx := hrx.next hx hz
        k_steps
        rename_i N8 _
        (rename Fr _ _ _ _ => F8)
        subst hrs
        exact ⟨rfl, _, _, _, _, xs.length - (i + 1) + (ys.length - j), rfl, F8, N8, by omega, i + 1, j, ms ++ [x], ns, sl, _, ⟨_, _, _, _, _, _, _, _, rfl, rfl, by rw [Array.toList_push]; exact StrsAre.append' hms (.cons x _ .nil), hns, by simp; omega, hnj'⟩, hD.lt hry hx hy c3, rfl, rfl⟩
      --}
    have c3' : (decide (x.cps.toList < y.cps.toList)) = false := decide_eq_false c3
    by_cases c5 : SLt y x
    · have c5' : (decide (y.cps.toList < x.cps.toList)) = true := decide_eq_true c5
      --{
      by_cases c4 : ys.length ≤ j + 1
      · have c4' : (ys.length : Int) ≤ (j : Int) + 1 := by omega
        k_steps
        rename_i t7 _ _ _ _ _ _ _ _ N8 h8 tk8 e8 x8
        (rename Fr _ _ _ _ => F8)
        subst hrs
        exact ⟨e8, _, i, j + 1, ms, ns ++ [y], _, _, _, _, rfl, rfl, ⟨_, _, _, _, _, _, _, _, rfl, rfl, hms, by rw [Array.toList_push]; exact StrsAre.append' hns (.cons y _ .nil), hmi', by simp; omega⟩, hD.gt hrx hx hy c5, .inr c4, sl, .inl ⟨_, Fresh.ofNew x8, F8, N8⟩⟩
      · obtain ⟨z, hz⟩ : ∃ z, ys[j + 1]? = some z := ⟨_, List.getElem?_eq_getElem (by omega)⟩
        have hz' : ys[((j : Int) + 1).toNat]? = some z := hz
        have hzx := hry.next hy hz
        k_steps
        rename_i N8 _
        (rename Fr _ _ _ _ => F8)
        subst hrs
        exact ⟨rfl, _, _, _, _, xs.length - i + (ys.length - (j + 1)), rfl, F8, N8, by omega, i, j + 1, ms, ns ++ [y], sl, _, ⟨_, _, _, _, _, _, _, _, rfl, rfl, hms, by rw [Array.toList_push]; exact StrsAre.append' hns (.cons y _ .nil), hmi', by simp; omega⟩, hD.gt hrx hx hy c5, rfl, rfl⟩
      --}
    have c5' : (decide (y.cps.toList < x.cps.toList)) = false := decide_eq_false c5
    obtain rfl : x = y := SLt.tri c3 c5
    repeat' (first | (k_unfold; (try dsimp only)) | ((fail_if_success (with_reducible show wpAny _ _ (exec (Stmt.Try _ _ _ _ _) _) _ _ _)); (first | walk1 | (dsimp only; walk1))))
    rename_i te _ F7 N7 ta _ F6 N6 h5 N5
    (rename Fr _ _ _ _ => F5)
    clear F7 N7 F6 N6 F₁ N₁
    refine wpAny_Try_finally ?_
    have hD' := hD.eq hrx hry hx hy
    have hneL' := hneL uits mits ku km
    obtain ⟨t5, F5'⟩ : ∃ t, Fr h₀ L' h5 (dfM mi ue ex ac ((i : Int) + 1) j t tj (some (.str x te)) (some (.str x ta))) := ⟨_, F5⟩
    clear F5
    by_cases c4 : xs.length ≤ i + 1
    · have c4' : (xs.length : Int) ≤ (i : Int) + 1 := by omega
      refine wpAny_mono (Q := fun _ _ => False) (E := EP h₀ L' L oL s (fun _ => dfM mi ue ex ac ((i : Int) + 1) j t5 tj (some (.str x te)) (some (.str x ta))) ((ue, listOf uits ku) :: (mi, listOf mits km) :: (ex, listOf vs.toArray k1) :: (ac, listOf us.toArray k2) :: rest) .none) ?b1 (fun _ _ x => x.elim) ?b2
      case b1 =>
        k_steps
        rename_i h8 tk8 e8 x8
        subst hrs
        exact ⟨0, e8, _, _, rfl, rfl, sl, .inl ⟨_, Fresh.ofNew x8, F5', N5⟩⟩
      case b2 =>
        clear F5' N5 hrs hrmi' hrue' rs
        rintro v s₁ ⟨_, e, h, tk', rfl, rfl, R⟩
        refine rsd_noted R rfl Fs' hneL' rfl fun h₂ sl₂ H C => ?_
        refine ⟨ref_ne_byPass _, noted_again H.held fun _ _ => ?_⟩
        refine HeldNA_fly (fr := none) H C fun h₃ H' C' => ?_
        obtain ⟨ob, vs', tb, otb, tvs, q1, q2, q3, q4, q5, q6, q7, F₃, N₃, q8⟩ := HeldNA_ledger H' C'
        dsimp only
        clear R H H' C C'
        simp only [List.cons_append] at N₃ q8
        have hrmi' := hmiL sl₂
        have hrue' := hueL sl₂
        generalize hrs : rest ++ [(L, { oL with slots := sl₂ })] = rs at N₃ hrmi' hrue' q8
        by_cases c6 : ys.length ≤ j + 1
        · have c6' : (ys.length : Int) ≤ (j : Int) + 1 := by omega
          have hneE : ∀ p ∈ (e, ob) :: (tb, otb) :: (ue, listOf uits ku) :: (mi, listOf mits km) :: (ex, listOf vs.toArray k1) :: (ac, listOf us.toArray k2) :: rest, p.1 ≠ L := by
            intro p hp
            have hin : (L, ({ oL with slots := sl₂ } : Obj)) ∈ rs := by rw [← hrs]; simp
            rcases List.mem_cons.mp hp with rfl | hp
            · intro qe
              have g1 := (N₃ _ (.head _)).1
              have g2 := (N₃ _ (.tail _ (.tail _ (.tail _ (.tail _ (.tail _ (.tail _ hin))))))).1
              dsimp only at qe g1 g2
              rw [qe] at g1
              rw [g1] at g2
              obtain ⟨_, _, _, _, hdd⟩ := Frs1 Fs'
              rw [Option.some.inj g2] at q2
              rw [show ({ oL with slots := sl₂ } : Obj).data = oL.data from rfl, hdd] at q2
              cases q2
            rcases List.mem_cons.mp hp with rfl | hp
            · exact (q8 _ (.tail _ (.tail _ (.tail _ (.tail _ hin))))).symm
            · exact hneL' p hp
          refine wpAny_mono (Q := fun _ _ => False) (E := EP h₀ L' L oL s (fun t => dfM mi ue ex ac ((i : Int) + 1) ((j : Int) + 1) t5 t (some (.str x te)) (some (.str x ta))) ((e, ob) :: (tb, otb) :: (ue, listOf uits ku) :: (mi, listOf mits km) :: (ex, listOf vs.toArray k1) :: (ac, listOf us.toArray k2) :: rest) (.ref e)) ?d1 (fun _ _ x => x.elim) ?d2
          case d1 =>
            k_steps
            rename_i N8 h8 tk8 e8 x8
            (rename Fr _ _ _ _ => F8)
            subst hrs
            exact ⟨_, e8, _, _, rfl, rfl, sl₂, .inl ⟨_, Fresh.ofOver x8, F8, N8⟩⟩
          case d2 =>
            rintro v s₁ ⟨t8, e8, h8, tk8, rfl, rfl, R⟩
            exact rsd_own_sub R rfl Fs' hneE rfl (fun p hp => .tail _ (.tail _ hp)) fun h' R' => ⟨e8, _, i + 1, j + 1, ms, ns, _, _, _, _, rfl, rfl, ⟨_, _, _, _, _, _, _, _, rfl, rfl, hms, hns, by omega, by omega⟩, hD', .inl c4, R'⟩
        · obtain ⟨z, hz⟩ : ∃ z, ys[j + 1]? = some z := ⟨_, List.getElem?_eq_getElem (by omega)⟩
          have hz' : ys[((j : Int) + 1).toNat]? = some z := hz
          have hzx := hry.next hy hz
          refine wpAny_noRaise ?_
          k_steps
          rename_i N8 _
          (rename Fr _ _ _ _ => F8)
          dsimp only
          obtain ⟨H9, C9⟩ := HeldNA_of F8 N8 q1 q2 q3 q4 q5 q6 q7 q8
          subst hrs
          exact HeldNA_passed H9 C9 fun h' H' C' => ⟨e, _, i + 1, j + 1, ms, ns, _, _, _, _, rfl, rfl, ⟨_, _, _, _, _, _, _, _, rfl, rfl, hms, hns, by omega, by omega⟩, hD', .inl c4, sl₂, .inr ⟨H', C'⟩⟩
    · obtain ⟨z, hz⟩ : ∃ z, xs[i + 1]? = some z := ⟨_, List.getElem?_eq_getElem (by omega)⟩
      have hz' : xs[((i : Int) + 1).toNat]? = some z := hz
      have hzx := hrx.next hx hz
      refine wpAny_noRaise ?_
      repeat' (first | (k_unfold; (try dsimp only)) | ((fail_if_success (with_reducible show wpAny _ _ (execs _ _) _ (notedBy _ _ _ _) _)); (first | walk1 | (dsimp only; walk1))))
      by_cases c6 : ys.length ≤ j + 1
      · have c6' : (ys.length : Int) ≤ (j : Int) + 1 := by omega
        refine wpAny_mono (E := TP h₀ L' s mi ue ex ac vs k1 us k2 rest xs ys L oL) ?_ (fun _ _ x => x) (tp_own rfl Fs' hneL rfl)
        k_steps
        rename_i N8 h8 tk8 e8 x8
        (rename Fr _ _ _ _ => F8)
        subst hrs
        exact ⟨e8, _, i + 1, j + 1, ms, ns, _, _, _, _, rfl, rfl, ⟨_, _, _, _, _, _, _, _, rfl, rfl, hms, hns, by omega, by omega⟩, hD', .inr c6, sl, .inl ⟨_, Fresh.ofNew x8, F8, N8⟩⟩
      · obtain ⟨z2, hz2⟩ : ∃ z, ys[j + 1]? = some z := ⟨_, List.getElem?_eq_getElem (by omega)⟩
        have hz2' : ys[((j : Int) + 1).toNat]? = some z2 := hz2
        have hzx2 := hry.next hy hz2
        refine wpAny_noRaise ?_
        k_steps
        rename_i N8 _
        (rename Fr _ _ _ _ => F8)
        subst hrs
        exact ⟨rfl, _, _, _, _, xs.length - (i + 1) + (ys.length - (j + 1)), rfl, F8, N8, by omega, i + 1, j + 1, ms, ns, sl, _, ⟨_, _, _, _, _, _, _, _, rfl, rfl, hms, hns, by omega, by omega⟩, hD', rfl, rfl⟩

end Mine
end

-- P5
section
namespace Mine

theorem lines_P5_0 : True := by
  k_with_none
  trivial
def sp1 (c : Nat) : List Nat := if isPunC c then [32, c, 32] else [c]
theorem rep_flat (c : Nat) (z : List Nat) (f : Nat → List Nat) (l : List Nat) : rep c z (l.flatMap f) = l.flatMap fun d => rep c z (f d) := by
  unfold rep
  rw [List.flatMap_assoc]
theorem rep_as (c : Nat) (z l : List Nat) : rep c z l = l.flatMap fun d => rep c z [d] := by
  conv => lhs; rw [show l = l.flatMap (fun d => [d]) by simp]
  exact rep_flat c z _ l
theorem flat_congr {f g : Nat → List Nat} (h : ∀ d, f d = g d) {l : List Nat} : l.flatMap f = l.flatMap g := by
  rw [show f = g from funext h]
theorem while_imp {f : Nat → Bool} : ∀ {l : List Nat} {c : Nat}, c ∈ l.takeWhile f → f c = true
  | [], _, h => by simp at h
  | d :: l, c, h => by
    by_cases hd : f d = true
    · rw [List.takeWhile_cons_of_pos hd] at h
      rcases List.mem_cons.mp h with rfl | h
      · exact hd
      · exact while_imp h
    · rw [List.takeWhile_cons_of_neg hd] at h; cases h
theorem while_self {f : Nat → Bool} : ∀ {l : List Nat}, (∀ c ∈ l, f c = true) → l.takeWhile f = l
  | [], _ => rfl
  | d :: l, h => by
    rw [List.takeWhile_cons_of_pos (h d (.head _)), while_self fun c hc => h c (.tail _ hc)]
theorem spaced_flat (l : List Nat) : spaced l 4 = l.flatMap sp1 := by
  unfold spaced
  rw [rep_as 38, rep_flat, rep_flat, rep_flat]
  refine flat_congr fun d => ?_
  unfold sp1 isPunC
  by_cases h1 : d = 38
  · subst h1; decide
  by_cases h2 : d = 59
  · subst h2; decide
  by_cases h3 : d = 60
  · subst h3; decide
  by_cases h4 : d = 62
  · subst h4; decide
  simp [rep, h1, h2, h3, h4]
theorem space_good : ∀ c, goodC c = true → Unicode.isSpace c = isWsC c := by
  have h : ∀ c : Fin 128, goodC c.1 = true → Unicode.isSpace c.1 = isWsC c.1 := by decide +kernel
  intro c hc
  have hlt : c < 128 := by
    by_cases hq : c < 128
    · exact hq
    · exfalso
      simp only [goodC, isWsC, isPunC, isWordC, Bool.or_eq_true, Bool.and_eq_true, decide_eq_true_eq, beq_iff_eq] at hc
      omega
  exact h ⟨c, hlt⟩ hc
/-- the words of a line without a remark, cur under way -/
def tokP : List Nat → List Nat → List (List Nat)
  | cur, [] => oneT cur
  | cur, c :: p => if isWsC c then oneT cur ++ tokP [] p else if isPunC c then oneT cur ++ [c] :: tokP [] p else tokP (cur ++ [c]) p
theorem step_sp {acc : List (List Nat)} {cur : List Nat} : stepL (acc, cur) 32 = (acc ++ oneT cur, []) := by
  unfold stepL oneT
  rw [if_pos (by decide +kernel)]
  by_cases h : cur = []
  · simp [h]
  · simp [h]
theorem step_ws {acc : List (List Nat)} {cur : List Nat} {c : Nat} (hc : Unicode.isSpace c = true) : stepL (acc, cur) c = (acc ++ oneT cur, []) := by
  unfold stepL oneT
  rw [if_pos hc]
  by_cases h : cur = []
  · simp [h]
  · simp [h]
theorem words_tok : ∀ (p cur : List Nat) (acc : List (List Nat)), (∀ c ∈ p, goodC c = true) → finL ((p.flatMap sp1).foldl stepL (acc, cur)) = acc ++ tokP cur p
  | [], cur, acc, _ => by
    show finL (acc, cur) = acc ++ oneT cur
    unfold finL oneT
    by_cases h : cur = []
    · simp [h]
    · simp [h]
  | c :: p, cur, acc, hg => by
    have hc := hg c (.head _)
    have ih := fun cur acc => words_tok p cur acc fun d hd => hg d (.tail _ hd)
    rw [List.flatMap_cons, List.foldl_append, tokP, show sp1 c = if isPunC c then [32, c, 32] else [c] from rfl]
    by_cases hp : isPunC c = true
    · have hw : isWsC c = false := by
        simp only [isPunC, Bool.or_eq_true, beq_iff_eq] at hp
        rcases hp with ((rfl | rfl) | rfl) | rfl <;> rfl
      have hns : ¬ (Unicode.isSpace c = true) := by rw [space_good c hc, hw]; decide
      rw [if_pos hp, if_neg (by rw [hw]; decide), if_pos hp]
      rw [List.foldl_cons, List.foldl_cons, List.foldl_cons, List.foldl_nil, step_sp (acc := acc) (cur := cur)]
      have e : stepL (acc ++ oneT cur, []) c = (acc ++ oneT cur, [c]) := by
        unfold stepL
        rw [if_neg hns]; rfl
      rw [e, step_sp, ih]
      simp [oneT]
    · rw [if_neg hp, if_neg hp, List.foldl_cons, List.foldl_nil]
      by_cases hw : isWsC c = true
      · rw [if_pos hw, step_ws (by rw [space_good c hc, hw]), ih, List.append_assoc]
      · have hns : ¬ (Unicode.isSpace c = true) := by rw [space_good c hc]; exact hw
        rw [if_neg hw]
        have e : stepL (acc, cur) c = (acc, cur ++ [c]) := by
          unfold stepL
          rw [if_neg hns]
        rw [e, ih]
theorem lineW_tok {ln : List Nat} (hg : ∀ c ∈ ln, goodC c = true) : lineW ln = tokP [] (ln.takeWhile fun d => decide (d ≠ 35)) := by
  unfold lineW wordsL
  rw [spaced_flat, words_tok _ _ _ fun c hc => hg c ((List.takeWhile_sublist _).subset hc), List.nil_append]
theorem lex_plain : ∀ (p cur r : List Nat), (∀ c ∈ p, goodC c = true ∧ c ≠ 10 ∧ c ≠ 35) → (r = [] ∨ (∃ r', r = 10 :: r') ∨ ∃ r', r = 35 :: r') →
    lexT (some cur) (p ++ r) = (tokP cur p ++ (lexT (some []) r).1, (lexT (some []) r).2)
  | [], cur, r, _, hr => by
    rcases hr with rfl | ⟨r', rfl⟩ | ⟨r', rfl⟩
    · simp [lexT, tokP, oneT]
    · simp [lexT, tokP, oneT]
    · simp [lexT, tokP, oneT, isWsC]
  | c :: p, cur, r, hp, hr => by
    obtain ⟨hg, h10, h35⟩ := hp c (.head _)
    have ih := fun cur => lex_plain p cur r (fun d hd => hp d (.tail _ hd)) hr
    rw [List.cons_append, lexT, tokP, if_neg h10]
    by_cases hw : isWsC c = true
    · rw [if_pos hw, if_pos hw, ih]
      simp [oneT]
    · rw [if_neg hw, if_neg hw, if_neg h35]
      by_cases hpn : isPunC c = true
      · have hwd : ¬ (isWordC c = true) := by
          simp only [isPunC, Bool.or_eq_true, beq_iff_eq] at hpn
          rcases hpn with ((rfl | rfl) | rfl) | rfl <;> decide
        rw [if_neg hwd, if_pos hpn, ih]
        simp [oneT]
      · have hwd : isWordC c = true := by
          simp only [goodC, Bool.or_eq_true, beq_iff_eq] at hg
          rcases hg with ((h | h) | h) | h
          · exact absurd h hw
          · exact absurd h h35
          · exact absurd h hpn
          · exact h
        rw [if_pos hwd, if_neg hpn, ih]
theorem skip_free : ∀ (q r : List Nat), 10 ∉ q → lexT none (q ++ r) = lexT none r
  | [], _, _ => rfl
  | c :: q, r, h => by
    have hc : c ≠ 10 := fun e => h (by rw [e]; exact .head _)
    rw [List.cons_append, lexT, if_neg hc]
    exact skip_free q r fun hm => h (.tail _ hm)
theorem split35 : ∀ (ln : List Nat), 35 ∈ ln → ∃ q, ln = (ln.takeWhile fun d => decide (d ≠ 35)) ++ 35 :: q
  | [], h => nomatch h
  | c :: ln, h => by
    by_cases hc : c = 35
    · subst hc
      exact ⟨ln, by simp⟩
    · rcases List.mem_cons.mp h with e | h
      · exact absurd e.symm hc
      · obtain ⟨q, hq⟩ := split35 ln h
        refine ⟨q, ?_⟩
        rw [List.takeWhile_cons_of_pos (by simp [hc]), List.cons_append, ← hq]
theorem take_free (ln : List Nat) (h : 35 ∉ ln) : (ln.takeWhile fun d => decide (d ≠ 35)) = ln := by
  refine while_self fun x hx => ?_
  exact decide_eq_true fun e => h (e ▸ hx)
theorem lex_line {ln : List Nat} (hg : ∀ c ∈ ln, goodC c = true) (h10 : 10 ∉ ln) (r : List Nat) : lexT (some []) (ln ++ 10 :: r) = (lineW ln ++ (lexT (some []) r).1, (lexT (some []) r).2 + 1) := by
  rw [lineW_tok hg]
  by_cases h : 35 ∈ ln
  · obtain ⟨q, hq⟩ := split35 ln h
    have hp : ∀ c ∈ (ln.takeWhile fun d => decide (d ≠ 35)), goodC c = true ∧ c ≠ 10 ∧ c ≠ 35 := fun c hc =>
      ⟨hg c ((List.takeWhile_sublist _).subset hc), fun e => h10 (e ▸ (List.takeWhile_sublist _).subset hc), by simpa using while_imp hc⟩
    have hq10 : 10 ∉ q := fun e => h10 (by rw [hq]; simp [e])
    conv => lhs; rw [hq]
    rw [List.append_assoc, List.cons_append, lex_plain _ _ _ hp (.inr (.inr ⟨_, rfl⟩))]
    rw [lexT, if_neg (by decide), if_neg (by decide), if_pos rfl, skip_free _ _ hq10, lexT, if_pos rfl]
    simp
  · rw [take_free ln h, lex_plain ln [] (10 :: r) (fun c hc => ⟨hg c hc, fun e => h10 (e ▸ hc), fun e => h (e ▸ hc)⟩) (.inr (.inl ⟨_, rfl⟩))]
    rw [lexT, if_pos rfl]
    simp
theorem lex_last {ln : List Nat} (hg : ∀ c ∈ ln, goodC c = true) (h10 : 10 ∉ ln) : lexT (some []) ln = (lineW ln, if 35 ∈ ln then 1 else 0) := by
  rw [lineW_tok hg]
  by_cases h : 35 ∈ ln
  · obtain ⟨q, hq⟩ := split35 ln h
    have hp : ∀ c ∈ (ln.takeWhile fun d => decide (d ≠ 35)), goodC c = true ∧ c ≠ 10 ∧ c ≠ 35 := fun c hc =>
      ⟨hg c ((List.takeWhile_sublist _).subset hc), fun e => h10 (e ▸ (List.takeWhile_sublist _).subset hc), by simpa using while_imp hc⟩
    have hq10 : 10 ∉ q := fun e => h10 (by rw [hq]; simp [e])
    conv => lhs; rw [hq]
    rw [lex_plain _ _ _ hp (.inr (.inr ⟨_, rfl⟩)), if_pos h]
    rw [lexT, if_neg (by decide), if_neg (by decide), if_pos rfl]
    have e := skip_free q [] hq10
    rw [List.append_nil] at e
    rw [e, lexT]
    simp
  · have e := lex_plain ln [] [] (fun c hc => ⟨hg c hc, fun e => h10 (e ▸ hc), fun e => h (e ▸ hc)⟩) (.inl rfl)
    rw [List.append_nil] at e
    rw [take_free ln h, e, if_neg h, lexT]
    simp
theorem lex_all : ∀ (n : Nat) (W : List Nat), W.length ≤ n → (∀ c ∈ W, goodC c = true) →
    lexT (some []) W = ((splL 10 W).flatMap lineW, (splL 10 W).length - 1 + (if 35 ∈ (splL 10 W).getLastD [] then 1 else 0))
  | 0, W, hn, _ => by
    obtain rfl : W = [] := List.eq_nil_of_length_eq_zero (Nat.le_zero.mp hn)
    decide +kernel
  | n + 1, W, hn, hg => by
    by_cases h : 10 ∈ W
    · obtain ⟨p, r, e, hp⟩ := List.eq_append_cons_of_mem h
      subst e
      have ih := lex_all n r (by simp at hn; omega) fun c hc => hg c (by simp [hc])
      rw [splL_app 10 p r hp, lex_line (fun c hc => hg c (by simp [hc])) hp, ih]
      obtain ⟨y, ys, e⟩ : ∃ y ys, splL 10 r = y :: ys := by
        cases hq : splL 10 r with
        | nil => exact absurd hq (splL_ne 10 r)
        | cons y ys => exact ⟨y, ys, rfl⟩
      rw [e]
      simp only [List.flatMap_cons, List.length_cons, List.getLastD_cons, Nat.add_sub_cancel]
      refine Prod.ext rfl ?_
      show _ + _ + 1 = _ + 1 + _
      omega
    · rw [splL_free 10 W h, lex_last hg h]
      simp

/-- the signs of the text -/
def sgns : List Nat := [97, 108, 116, 38, 60, 62, 59, 35, 10, 13, 9, 32]
def escC (turn : Int) (c : Nat) : List Nat := escT turn [c]
theorem escT_flat (turn : Int) (l : List Nat) : escT turn l = l.flatMap (escC turn) := by
  unfold escC escT
  repeat' split
  · unfold esc0; rw [rep_as 38, rep_flat, rep_flat]
  · unfold esc1; rw [rep_as 38, rep_flat, rep_flat, rep_flat, rep_flat, rep_flat, rep_flat]
  · unfold esc2; rw [rep_as 38, rep_flat, rep_flat]
  · unfold esc3; rw [rep_as 38, rep_flat, rep_flat, rep_flat]
  · unfold esc4; rw [rep_as 38, rep_flat, rep_flat, rep_flat, rep_flat, rep_flat]
def likeC (f g : List Nat) : Bool := f == g || (g == [38, 35] && f.take 2 == [38, 35] && !(f.drop 2).contains 10)
theorem like_all : ∀ turn : Fin 5, ∀ c ∈ sgns, likeC (escC (turn.1 : Int) c) (tabG (tabOf (turn.1 : Int)) c) = true ∧ (escC (turn.1 : Int) c).all goodC = true ∧ (tabG (tabOf (turn.1 : Int)) c).all goodC = true ∧ (escC (turn.1 : Int) c).length ≤ 5 := by decide +kernel
theorem like_at {turn : Int} (h0 : 0 ≤ turn) (h1 : turn < 5) {c : Nat} (hc : c ∈ sgns) : likeC (escC turn c) (tabG (tabOf turn) c) = true ∧ (escC turn c).all goodC = true ∧ (tabG (tabOf turn) c).all goodC = true ∧ (escC turn c).length ≤ 5 := by
  obtain ⟨n, rfl⟩ := Int.eq_ofNat_of_zero_le h0
  exact like_all ⟨n, by omega⟩ c hc
theorem lexT_congr {r r' : List Nat} (h : ∀ st, lexT st r = lexT st r') : ∀ (p : List Nat) st, lexT st (p ++ r) = lexT st (p ++ r')
  | [], st => h st
  | c :: p, none => by
    have ih := lexT_congr h p
    rw [List.cons_append, List.cons_append, lexT, lexT, ih, ih]
  | c :: p, some cur => by
    have ih := lexT_congr h p
    rw [List.cons_append, List.cons_append, lexT, lexT, ih, ih, ih]
theorem lexT_hash {r r' : List Nat} (h : lexT none r = lexT none r') : ∀ st, lexT st (38 :: 35 :: r) = lexT st (38 :: 35 :: r') := by
  have h1 : ∀ st, lexT st (35 :: r) = lexT st (35 :: r') := by
    intro st
    cases st with
    | none => rw [lexT, lexT, if_neg (by decide), if_neg (by decide), h]
    | some cur => rw [lexT, lexT, h]; simp [isWsC]
  exact lexT_congr h1 [38]
theorem lex_like {f g : Nat → List Nat} : ∀ l : List Nat, (∀ c ∈ l, likeC (f c) (g c) = true) → ∀ st, lexT st (l.flatMap f) = lexT st (l.flatMap g)
  | [], _, _ => rfl
  | c :: l, h, st => by
    have ih := lex_like l fun d hd => h d (.tail _ hd)
    have hc := h c (.head _)
    rw [List.flatMap_cons, List.flatMap_cons]
    unfold likeC at hc
    rcases Bool.or_eq_true_iff.mp hc with e | e
    · rw [eq_of_beq e]
      exact lexT_congr ih _ st
    · obtain ⟨e12, e3⟩ := Bool.and_eq_true_iff.mp e
      obtain ⟨e1, e2⟩ := Bool.and_eq_true_iff.mp e12
      have e1 := eq_of_beq e1
      have e2 := eq_of_beq e2
      have e4 : f c = 38 :: 35 :: (f c).drop 2 := by
        conv => lhs; rw [← List.take_append_drop 2 (f c), e2]
        rfl
      rw [e1, e4]
      have e5 : 10 ∉ (f c).drop 2 := by simpa using e3
      show lexT st (38 :: 35 :: ((f c).drop 2 ++ l.flatMap f)) = lexT st (38 :: 35 :: l.flatMap g)
      exact lexT_hash (by rw [skip_free _ _ e5]; exact ih none) st
theorem text_sgns (ns : List Int) : ∀ c ∈ textL ns, c ∈ sgns := by
  intro c hc
  have h : ∀ l ∈ pcs, ∀ c ∈ l, c ∈ sgns := by decide
  unfold textL at hc
  rcases List.mem_cons.mp hc with rfl | hc
  · decide
  rcases List.mem_cons.mp hc with rfl | hc
  · decide
  · obtain ⟨l, hl, hc⟩ := List.mem_flatten.mp hc
    obtain ⟨k, _, rfl⟩ := List.mem_map.mp hl
    rcases pieceL_cases k with hq | hq
    · exact h _ hq c hc
    · rw [hq] at hc; cases hc
section
variable {turn : Int} (h0 : 0 ≤ turn) (h1 : turn < 5) {l : List Nat} (hl : ∀ c ∈ l, c ∈ sgns)
include h0 h1 hl
theorem esc_good : ∀ c ∈ escT turn l, goodC c = true := by
  intro c hc
  rw [escT_flat] at hc
  obtain ⟨d, hd, hc⟩ := List.mem_flatMap.mp hc
  exact List.all_eq_true.mp (like_at h0 h1 (hl d hd)).2.1 c hc
theorem esc_len (hx : l.length ≤ 22) : (escT turn l).length ≤ 1000 := by
  rw [escT_flat]
  have : ∀ k : List Nat, (∀ c ∈ k, c ∈ sgns) → (k.flatMap (escC turn)).length ≤ 5 * k.length := by
    intro k
    induction k with
    | nil => intro _; simp
    | cons d k ih =>
      intro hk
      have h2 := (like_at h0 h1 (hk d (.head _))).2.2.2
      have h3 := ih fun c hc => hk c (.tail _ hc)
      rw [List.flatMap_cons, List.length_append, List.length_cons]
      omega
  have := this l hl
  omega
theorem plain_good : ∀ c ∈ plainW turn l, goodC c = true := by
  intro c hc
  obtain ⟨x, hx, hc⟩ := List.mem_flatten.mp hc
  obtain ⟨d, hd, rfl⟩ := List.mem_map.mp hx
  exact List.all_eq_true.mp (like_at h0 h1 (hl d hd)).2.2.1 c hc
theorem lex_plainW : lexT (some []) (escT turn l) = ((plainLn (plainW turn l)).flatMap lineW, (plainLn (plainW turn l)).length - 1 + (if 35 ∈ (plainLn (plainW turn l)).getLastD [] then 1 else 0)) := by
  rw [escT_flat, lex_like l (fun c hc => (like_at h0 h1 (hl c hc)).1) (some []), ← List.flatMap_def.symm]
  exact lex_all _ _ (Nat.le_refl _) (plain_good h0 h1 hl)
end
theorem one_ne {cur : List Nat} {l : List (List Nat)} (h : [] ∉ l) : [] ∉ (if cur = [] then [] else [cur]) ++ l := by
  by_cases hc : cur = []
  · rw [if_pos hc]; exact h
  · rw [if_neg hc]
    intro hm
    rcases List.mem_cons.mp hm with e | hm
    · exact hc e.symm
    · exact h hm
theorem lexT_ne : ∀ (r : List Nat) (st : Option (List Nat)), [] ∉ (lexT st r).1
  | [], none => by simp [lexT]
  | [], some cur => by
    have := one_ne (cur := cur) (l := []) (by simp)
    rw [List.append_nil] at this
    exact this
  | c :: r, none => by
    rw [lexT]
    split
    · exact lexT_ne r _
    · exact lexT_ne r _
  | c :: r, some cur => by
    rw [lexT]
    by_cases h1 : c = 10
    · rw [if_pos h1]; exact one_ne (lexT_ne r _)
    rw [if_neg h1]
    by_cases h2 : isWsC c = true
    · rw [if_pos h2]; exact one_ne (lexT_ne r _)
    rw [if_neg h2]
    by_cases h3 : c = 35
    · rw [if_pos h3]; exact one_ne (lexT_ne r _)
    rw [if_neg h3]
    by_cases h4 : isWordC c = true
    · rw [if_pos h4]; exact lexT_ne r _
    rw [if_neg h4]
    refine one_ne fun hm => ?_
    rcases List.mem_cons.mp hm with e | hm
    · cases e
    · exact lexT_ne r _ hm
theorem map_tokS {ls : List (List Nat)} (h : [] ∉ ls) : ls.map tokS = ls.map mkS := List.map_congr_left fun x hx => tokS_ne fun e => h (e ▸ hx)

end Mine
end

-- S0
section
namespace Mine

theorem lines_S0_0 : True := by
  k_with_none
  trivial
open PySem.Calls PySem.Spec
/-- a set of texts at a: ys, in some order; nothing of its table but that it is no plain one -/
def SetS (prog : Program) (w : World) (h : Heap) (a : Addr) (ys : List Str) : Prop :=
  ∃ o es ep t zs, h.get? a = some o ∧ o.ExactSet ∧ o.data = .set es ep t ∧ ElemsOf (PySem.strKind prog w) es.toList ∧ StrsAre (es.toList.map (·.2)) zs ∧ zs.Perm ys ∧ t.fits es.size = true ∧ (es.size = 0 ∨ t.plain = false)
theorem relay_plain (t : SetTable) (es : Array (Int × Value)) (n : Nat) (h : t.plain = false) : (relayAll t es n).2.1.plain = false := by
  unfold relayAll
  split
  · rename_i t' order e
    dsimp only
    split
    · unfold SetTable.relaid SetTable.laid at e
      cases hq : SetTable.layClean (SetTable.sizeAbove n - 1) (es.map (·.1)) with
      | none => rw [hq] at e; cases e
      | some owner =>
        rw [hq] at e
        have e' := Option.some.inj e
        have e2 := congrArg (fun p => p.1.plain) e'
        exact e2.symm.trans h
    · rfl
  · rfl
theorem strs_perm {vs vs' : List Value} (hp : vs'.Perm vs) : ∀ {xs : List Str}, StrsAre vs xs → ∃ xs', StrsAre vs' xs' ∧ xs'.Perm xs := by
  induction hp with
  | nil => intro xs h; exact ⟨xs, h, .refl _⟩
  | cons v _ ih =>
    intro xs h
    cases h with
    | cons y t h =>
      obtain ⟨xs', h1, h2⟩ := ih h
      exact ⟨y :: xs', .cons y t h1, .cons y h2⟩
  | swap v u l =>
    intro xs h
    cases h with
    | cons y t h =>
      cases h with
      | cons z t' h => exact ⟨z :: y :: _, .cons z t' (.cons y t h), .swap y z _⟩
  | trans _ _ ih1 ih2 =>
    intro xs h
    obtain ⟨x1, h1, p1⟩ := ih2 h
    obtain ⟨x2, h2, p2⟩ := ih1 h1
    exact ⟨x2, h2, p2.trans p1⟩
theorem strs_mem {vs : List Value} {xs : List Str} (h : StrsAre vs xs) : ∀ y, y ∈ xs ↔ ∃ v ∈ vs, Value.isStrOf y v = true := by
  induction h with
  | nil => intro y; simp
  | cons x t _ ih =>
    intro y
    simp only [List.mem_cons, ih y, exists_eq_or_imp]
    have : (Value.isStrOf y (.str x t) = true) ↔ y = x := by
      simp only [Value.isStrOf, beq_iff_eq]
      first | exact eq_comm | exact Iff.rfl
    rw [this]
section
variable {prog : Program} {w : World} {A : Around} {E : Value → Shared → Prop} {s : Shared}
theorem setS_stored {h : Heap} {a : Addr} {o : Obj} {es : Array (Int × Value)} {ep : Nat} {t : SetTable} (ho : h.get? a = some o) (hd : o.data = .set es ep t) (es' : Array (Int × Value)) (t' : SetTable) :
    (h.update a (Obj.putSet es' t')).get? a = some { o with data := .set es' (ep + 1) t' } := by
  have := Heap.get?_update_self (Obj.putSet es' t') ho (by rw [putSet_of es' t' hd]; rfl)
  rw [putSet_of es' t' hd] at this; exact this
theorem addTail_str {g : Bool → Sem Unit} (hg : ∀ (b : Bool) (s₁ : Shared) (Q' : Unit → Shared → Prop), Q' () s₁ → wpAny (model prog w) A (g b) Q' E s₁)
    {a : Addr} {o : Obj} {es : Array (Int × Value)} {ep : Nat} {t : SetTable} (ho : s.heap.get? a = some o) (hex : o.ExactSet) (hd : o.data = .set es ep t)
    {es1 : Array (Int × Value)} {t2 : SetTable} {zs ys : List Str} (hel1 : ElemsOf (PySem.strKind prog w) es1.toList) (hz : StrsAre (es1.toList.map (·.2)) zs) (hp : zs.Perm ys)
    (hb1 : es1.size < scanBound) (hf2 : t2.fits es1.size = true) (hpl : t2.plain = false) {wasDummy : Bool} {R : Option Bool → Shared → Prop}
    (h : ∀ h', Heap.SameBut a s.heap h' → SetS prog w h' a ys → R (some true) { s with heap := h' }) :
    wpAny (model prog w) A (do
        storeSet a es1 t2
        if (!wasDummy && t2.tooFull) = true then do
            g (relayAll t2 es1 (SetTable.grown es1.size)).2.2
            storeSet a (relayAll t2 es1 (SetTable.grown es1.size)).1 (relayAll t2 es1 (SetTable.grown es1.size)).2.1
            pure (some true)
          else pure (some true)) R E s := by
  refine wpAny_bind (wpAny_storeSet_of ho hd ?_ (fits_of_scanBound hb1))
  have ho1 := setS_stored ho hd es1 t2
  have hsb1 := Heap.SameBut.update s.heap a (Obj.putSet es1 t2)
  split
  · have hpr := relayAll_perm t2 es1 (SetTable.grown es1.size)
    have hfr := relayAll_fits t2 es1 (SetTable.grown es1.size)
    have hplr := relay_plain t2 es1 (SetTable.grown es1.size) hpl
    generalize relayAll t2 es1 (SetTable.grown es1.size) = Rl at hpr hfr hplr ⊢
    obtain ⟨es2, t3, gave2⟩ := Rl
    dsimp only at hpr hfr hplr ⊢
    have hsz : es2.size = es1.size := by rw [← Array.length_toList, hpr.length_eq, Array.length_toList]
    obtain ⟨zs2, hz2, hp2⟩ := strs_perm (hpr.map (·.2)) hz
    refine wpAny_bind (hg _ _ _ ?_)
    refine wpAny_bind (wpAny_storeSet_of ho1 rfl ?_ (fits_of_scanBound (by rw [hsz]; exact hb1)))
    exact wpAny_pure (h _ (hsb1.trans (Heap.SameBut.update _ a _)) ⟨_, es2, _, t3, zs2, setS_stored ho1 rfl es2 t3, hex, rfl, hel1.perm hpr, hz2, hp2.trans hp, hfr, .inr hplr⟩)
  · exact wpAny_pure (h _ hsb1 ⟨_, es1, _, t2, zs, ho1, hex, rfl, hel1, hz, hp, hf2, .inr hpl⟩)
theorem setAdd_str {a : Addr} {ys : List Str} {y : Str} {u : Tok} {Q : Bool → Shared → Prop} (hS : SetS prog w s.heap a ys) (hroom : ys.length + 1 < scanBound)
    (h : ∀ b h', Heap.SameBut a s.heap h' → SetS prog w h' a (if y ∈ ys then ys else ys ++ [y]) → Q b { s with heap := h' }) :
    wpAny (model prog w) A (setAddHashed a (.str y u) ((PySem.strKind prog w).hash y)) Q E s := by
  obtain ⟨o, es, ep, t, zs, ho, hex, hd, hel, hz, hp, hf, hpl⟩ := hS
  have hn : es.size = ys.length := by rw [← hp.length_eq, ← hz.len_eq, List.length_map, Array.length_toList]
  have hb : es.size < scanBound := by omega
  have hkey : (PySem.strKind prog w).is y (.str y u) = true := strKind_is prog w y u
  have hmem : y ∈ ys ↔ ∃ e ∈ es.toList, (PySem.strKind prog w).is y e.2 = true := by
    rw [← hp.mem_iff, strs_mem hz y]
    constructor
    · rintro ⟨v, hv, e⟩
      obtain ⟨x, hx, rfl⟩ := List.mem_map.mp hv
      exact ⟨x, hx, e⟩
    · rintro ⟨x, hx, e⟩
      exact ⟨x.2, List.mem_map.mpr ⟨x, hx, rfl⟩, e⟩
  unfold setAddHashed setAddHashedIn
  refine wpAny_holding (wpAny_bind (wpAny_setState_of ho hd hf ?_))
  dsimp only
  rw [byScan_of (knd := PySem.strKind prog w) rfl hb hel]
  simp only [↓reduceIte]
  unfold setAddByScan
  refine wpAny_bind ?_
  refine wpAny_bind (wpAny_rule ?_)
  refine wpAny_bind (wpAny_setScan_of hkey ho hd hf hel ?_)
  cases hr : List.findIdx? (fun e => (PySem.strKind prog w).is y e.2) es.toList with
  | some j =>
    dsimp only
    obtain ⟨hj, hpj, _⟩ := List.findIdx?_eq_some_iff_getElem.mp hr
    have hin : y ∈ ys := hmem.mpr ⟨_, List.getElem_mem hj, hpj⟩
    refine wpAny_pure (wpAny_pure ?_)
    have := h false s.heap (Heap.SameBut.refl a s.heap) (by rw [if_pos hin]; exact ⟨o, es, ep, t, zs, ho, hex, hd, hel, hz, hp, hf, hpl⟩)
    cases s; exact this
  | none =>
    dsimp only
    have hin : y ∉ ys := fun hm => by
      obtain ⟨e, he, q⟩ := hmem.mp hm
      have := List.findIdx?_eq_none_iff.mp hr e he
      rw [q] at this; cases this
    rw [if_neg hin] at h
    have hperm := layNew_perm t es ((PySem.strKind prog w).hash y) (.str y u)
    have hfits := layNew_fits t es ((PySem.strKind prog w).hash y) (.str y u)
    generalize layNew t es ((PySem.strKind prog w).hash y) (.str y u) = Ly at hperm hfits ⊢
    obtain ⟨es1, t1, wasDummy, gave⟩ := Ly
    dsimp only at hperm hfits ⊢
    rw [Array.toList_push] at hperm
    have hel1 : ElemsOf (PySem.strKind prog w) es1.toList := (hel.push hkey rfl).perm hperm
    obtain ⟨zs1, hz1, hp1⟩ := strs_perm (hperm.map (·.2)) (xs := zs ++ [y]) (by rw [List.map_append]; exact StrsAre.append' hz (.cons y u .nil))
    have hsz1 : es1.size = es.size + 1 := by rw [← Array.length_toList, hperm.length_eq, List.length_append, Array.length_toList]; rfl
    have hp1' : zs1.Perm (ys ++ [y]) := hp1.trans (hp.append_right _)
    have hgw : ∀ (b : Bool) (s₁ : Shared) (Q' : Unit → Shared → Prop), Q' () s₁ → wpAny (model prog w) A (match b with | true => rule "set.scan.the-table-gave-way" | false => pure ()) Q' E s₁ :=
      fun b s₁ Q' hq => by cases b <;> first | exact wpAny_pure hq | exact wpAny_rule hq
    refine wpAny_bind (hgw _ _ _ ?_)
    split
    · refine wpAny_bind ?_
      rw [hashByValue_scannable 8 rfl]
      refine wpAny_pure ?_
      refine addTail_str ?_ ho hex hd hel1 hz1 hp1' (by omega) ?_ ?_ ?_
      · intro b s₁ Q' hq; cases b <;> first | exact wpAny_pure hq | exact wpAny_rule hq
      · exact SetTable.fits_plain_off hfits
      · rfl
      · intro h' hsb hS'; dsimp only; exact wpAny_pure (h _ h' hsb hS')
    · rename_i hnp
      refine wpAny_bind (wpAny_pure ?_)
      simp only [↓reduceIte]
      refine addTail_str ?_ ho hex hd hel1 hz1 hp1' (by omega) hfits (by simpa using hnp) ?_
      · intro b s₁ Q' hq; cases b <;> first | exact wpAny_pure hq | exact wpAny_rule hq
      · intro h' hsb hS'; dsimp only; exact wpAny_pure (h _ h' hsb hS')
end

end Mine
end

-- S1
section
namespace Mine

theorem lines_S1_0 : True := by
  k_with_none
  trivial
open PySem.Calls PySem.Spec
def ded1 (σ : List Str) (y : Str) : List Str := if y ∈ σ then σ else σ ++ [y]
def ded (xs : List Str) : List Str := xs.foldl ded1 []
theorem ded_nodup_from : ∀ (xs σ : List Str), σ.Nodup → (xs.foldl ded1 σ).Nodup
  | [], _, h => h
  | x :: xs, σ, h => by
    refine ded_nodup_from xs _ ?_
    unfold ded1
    split
    · exact h
    · rename_i hn
      rw [List.nodup_append]
      refine ⟨h, by simp, fun a ha b hb => ?_⟩
      rw [List.mem_singleton.mp hb]
      exact fun e => hn (e ▸ ha)
theorem ded_nodup (xs : List Str) : (ded xs).Nodup := ded_nodup_from xs [] .nil
theorem ded_mem_from : ∀ (xs σ : List Str) (y : Str), y ∈ xs.foldl ded1 σ ↔ y ∈ σ ∨ y ∈ xs
  | [], σ, y => by simp
  | x :: xs, σ, y => by
    rw [List.foldl_cons, ded_mem_from xs _ y]
    unfold ded1
    split
    · rename_i hm
      constructor
      · rintro (h | h)
        · exact .inl h
        · exact .inr (.tail _ h)
      · rintro (h | h)
        · exact .inl h
        · rcases List.mem_cons.mp h with rfl | h
          · exact .inl hm
          · exact .inr h
    · rw [List.mem_append, List.mem_singleton, List.mem_cons, or_assoc]
theorem ded_mem (xs : List Str) (y : Str) : y ∈ ded xs ↔ y ∈ xs := by simp [ded, ded_mem_from]
theorem ded1_len (σ : List Str) (y : Str) : (ded1 σ y).length ≤ σ.length + 1 := by
  unfold ded1; split <;> simp
theorem ded_len_from : ∀ (xs σ : List Str), (xs.foldl ded1 σ).length ≤ σ.length + xs.length
  | [], σ => by simp
  | x :: xs, σ => by
    rw [List.foldl_cons]
    have h1 := ded_len_from xs (ded1 σ x)
    have h2 := ded1_len σ x
    rw [List.length_cons]; omega
theorem ded_len (xs : List Str) : (ded xs).length ≤ xs.length := by simpa [ded] using ded_len_from xs []
theorem ded_snoc (xs : List Str) (y : Str) : ded (xs ++ [y]) = ded1 (ded xs) y := by simp [ded]
theorem take_snoc {xs : List Str} {i : Nat} {y : Str} (h : xs[i]? = some y) : xs.take (i + 1) = xs.take i ++ [y] := by
  rw [List.take_add_one, h]; rfl
section
variable {prog : Program} {w : World} {A : Around} {R : Result → Shared → Prop} {I : Addr} {fp wr : List Addr} {G : Array GenState → Array GenState → Prop} {P : Nat → Value → Prop} {St : Nat → Shared → Prop}
theorem SetS.at' {h h' : Heap} {a : Addr} {ys : List Str} (H : SetS prog w h a ys) (k : ∀ o, h.get? a = some o → h'.get? a = some o) : SetS prog w h' a ys := by
  obtain ⟨o, es, ep, t, zs, ho, r⟩ := H
  exact ⟨o, es, ep, t, zs, k o ho, r⟩
theorem set_loop_strs {xs : List Str} (W : WalksS prog w A.in1 I fp wr G xs.length P St) (S : Addr) (hSf : S ∉ fp) (hval : ∀ i v, P i v → ∃ y t, xs[i]? = some y ∧ v = .str y t) (hb : xs.length + 1 < scanBound) :
    ∀ (k i : Nat) (s : Shared), xs.length - i = k → i ≤ xs.length → St i s → SetS prog w s.heap S (ded (xs.take i)) →
      (∀ s', Moved (S :: wr) G s s' → SetS prog w s'.heap S (ded xs) → R (.ok (.ret .none)) s') →
      codeAny (model prog w) A (.builtin "set.update.loop" ⟨[.ref S, .ref I], []⟩) R s := by
  have hSw : S ∉ wr := fun h => hSf (W.sub _ h)
  have hsub : ∀ b ∈ wr, b ∈ S :: wr := fun b hb => List.mem_cons_of_mem _ hb
  intro k
  induction k with
  | zero =>
    intro i s hk hi hst hS hR
    have hin : i = xs.length := by omega
    subst hin
    refine codeAny_builtin PyProof.Rows.F.entry_set_update_loop ?_
    rw [Around.under_plainId PyProof.Rows.F.plain_set_update_loop _]
    show wpAny _ A.in1 (pyNext (.ref I) >>= _) _ _ s
    refine wpAny_bind (W.done s _ _ hst fun s' hm => ?_)
    show wpAny _ A.in1 (ret Value.none) _ _ s'
    rw [List.take_length] at hS
    exact wpAny_pure (hR s' (hm.mono hsub) (hS.at' fun o e => hm.heap S o hSw e))
  | succ k ih =>
    intro i s hk hi hst hS hR
    have hlt : i < xs.length := by omega
    refine codeAny_builtin PyProof.Rows.F.entry_set_update_loop ?_
    rw [Around.under_plainId PyProof.Rows.F.plain_set_update_loop _]
    show wpAny _ A.in1 (pyNext (.ref I) >>= _) _ _ s
    refine wpAny_bind (W.item i s _ _ hlt hst fun v s' hP hst' hm => ?_)
    obtain ⟨y, t, hy, rfl⟩ := hval i v hP
    have hS' : SetS prog w s'.heap S (ded (xs.take i)) := hS.at' fun o e => hm.heap S o hSw e
    show wpAny _ A.in1 (holding [Value.str y t] (setAdd S (.str y t)) >>= _) _ _ s'
    refine wpAny_bind (wpAny_holding ?_)
    unfold setAdd
    refine wpAny_holding ?_
    refine wpAny_bind ((PySem.strKind prog w).pyHash (k := y) (strKind_is prog w y t) ?_)
    have hle := ded_len (xs.take i)
    rw [List.length_take] at hle
    refine setAdd_str (s := { s' with toks := s'.toks + 1 }) hS' (by omega) fun b h' hsb hS2 => ?_
    have hSi : SetS prog w h' S (ded (xs.take (i + 1))) := by rw [take_snoc hy, ded_snoc]; exact hS2
    refine wpAny_pure ⟨plainId_quiet PyProof.Rows.F.plain_set_update_loop _, ih (i + 1) _ (by omega) hlt (W.frame _ s' _ _ hst' (Nat.le_succ _) fun b hb o e => ?_) hSi fun s'' hm'' hS'' => ?_⟩
    · rw [hsb.2 b (fun h : b = S => hSf (by rw [← h]; exact hb))]; exact e
    · refine hR s'' (Moved.trans W.gtrans ((hm.mono hsub).then_heap (Nat.le_succ _) fun b o hb e => ?_) hm'') hS''
      rw [hsb.2 b (fun h : b = S => hb (by rw [h]; exact List.mem_cons_self))]; exact e
end
theorem strs_at : ∀ {vs : List Value} {xs : List Str}, StrsAre vs xs → ∀ (i : Nat) (v : Value), vs[i]? = some v → ∃ y t, xs[i]? = some y ∧ v = .str y t
  | _, _, .nil, i, v, h => by simp at h
  | _, _, .cons y t hr, 0, v, h => by
    have : Value.str y t = v := by simpa using h
    exact ⟨y, t, rfl, this.symm⟩
  | _, _, .cons y t hr, i + 1, v, h => by
    rw [List.getElem?_cons_succ] at h
    obtain ⟨y', t', e1, e2⟩ := strs_at hr i v h
    exact ⟨y', t', by rw [List.getElem?_cons_succ]; exact e1, e2⟩
section
variable {prog : Program} {w : World} {A : Around} {E : Value → Shared → Prop} {s : Shared}
set_option maxRecDepth 100000 in
set_option maxHeartbeats 3200000 in
theorem call_set_strs {l : Addr} {items : Array Value} {xs : List Str} {Q : Value → Shared → Prop}
    (hh : A.handled = none) (hl : s.heap.IsList l items) (hi : StrsAre items.toList xs) (hb : xs.length + 1 < scanBound)
    (h : ∀ (h' : Heap) (tk : Nat), SetS prog w h' s.heap.objs.size (ded xs) → (∀ b o, b < s.heap.objs.size → s.heap.get? b = some o → h'.get? b = some o) → Q (.ref s.heap.objs.size) { s with heap := h', toks := tk }) :
    wpAny (model prog w) A (call (.type "set") [.ref l]) Q E s := by
  have hlen : items.size = xs.length := by rw [← hi.len_eq, Array.length_toList]
  obtain ⟨c, tl, hmro⟩ := PySem.F.called_set.mro
  have hmade := PySem.F.called_set.made
  have hsub := PySem.F.called_set.sub
  refine wpAny_call (codeAny_of_tree ?_)
  show wpAny _ _ (callAny (.type "set") _) _ _ _
  refine wpAny_pure ⟨Code.quiet_builtin _ (by decide +kernel), codeAny_builtin PySem.F.entry_type_call ?_⟩
  rw [Around.under_plain (weight_type_call_type "set" [.ref l] []) rfl]
  have h1 := PySem.F.called_set.notType
  have h2 := PySem.F.called_set.canCreate
  have hct := PySem.F.typeCall_set_1 (.ref l)
  repeat (any_goals (first | assumption | wp_step))
  refine codeAny_mono (code_set_new_1 (.ref l) (E := E) (Q₁ := fun obj s₁ => ∃ led : Bool, obj = .ref s.heap.objs.size ∧ s₁ = { s with heap := s.heap.push { cls := .type "set", dict := none, data := .set #[] 0 (.fresh 0 0 led) } }) fun led => ⟨led, rfl, rfl⟩) fun r s₁ hr => ?_
  cases r with
  | error e => exact hr
  | ok fl =>
    cases fl with
    | ret obj =>
      obtain ⟨led, rfl, rfl⟩ := hr
      generalize hSO : ({ cls := .type "set", dict := none, data := .set #[] 0 (.fresh 0 0 led) } : Obj) = SO
      have hSf : SO.isFreed = false := by rw [← hSO]; rfl
      have hSc : SO.cls = .type "set" := by rw [← hSO]
      have hS : (s.heap.push SO).get? s.heap.objs.size = some SO := Heap.get?_push_size _ hSf
      have hT : Shared.TypeIs { s with heap := s.heap.push SO } (.ref s.heap.objs.size) "set" := ⟨_, hS, hSc⟩
      have hli := PySem.F.called_set.init.lookup
      have hbi := PySem.F.called_set.init.bind (.ref s.heap.objs.size)
      repeat (any_goals (first | assumption | wp_step))
      refine codeAny_mono (codeAny_call_builtin (R := wants (fun r s₂ => r = .none ∧ ∃ h' tk, s₂ = { s with heap := h', toks := tk } ∧ SetS prog w h' s.heap.objs.size (ded xs) ∧
          (∀ b o, b < s.heap.objs.size → s.heap.get? b = some o → h'.get? b = some o)) E) PySem.F.called_set.init.plain PySem.F.entry_set_init (check_set_init_1 hT ?_)) fun r₂ s₂ hr₂ => ?_
      · have hl1 : (s.heap.push SO).IsList l items := hl.push _
        have hlt : Shared.TypeIs { s with heap := s.heap.push SO } (.ref l) "list" := hl1.typeIs
        obtain ⟨ol, hol, hcl, nl, hdl⟩ := hl
        have hol' : (s.heap.push SO).get? l = some ol := Heap.get?_push_of_some _ hol
        have hsls := PySem.F.sub_list_set
        have hslf := PySem.F.sub_list_frozenset
        have hne : (Value.type "list" == Value.type "dict") = false := by decide
        obtain ⟨ocls, odict, odata, oslots⟩ := ol
        simp only at hcl hdl
        subst hcl; subst hdl
        unfold Builtin.«set.__init__» noKeywords Builtin.Frozenset.updateFrom
        subst hSO
        generalize hPI : pyIter = PI
        wp_walk
        subst hPI
        refine wpAny_pyIter_list hl1 ?_
        refine wpAny_bind (wpAny_runValue ?_)
        generalize hSO : ({ cls := .type "set", dict := none, data := .set #[] 0 (.fresh 0 0 led) } : Obj) = SO at *
        have hlS : l < s.heap.objs.size := Heap.lt_size hol
        have hh3 : A.in1.in1.in1.handled = none := by simp [hh]
        have hneI : l ≠ (s.heap.push SO).objs.size := by
          rw [Heap.size_push]; exact Nat.ne_of_lt (Nat.lt_succ_of_lt hlS)
        have hSfp : s.heap.objs.size ∉ [(s.heap.push SO).objs.size, l] := by
          rw [Heap.size_push]; simp only [List.mem_cons, List.not_mem_nil, or_false, not_or]
          exact ⟨Nat.ne_of_lt (Nat.lt_succ_self _), Nat.ne_of_gt hlS⟩
        have W := (Walks.list (prog := prog) (w := w) hh3 (s.heap.push SO).objs.size l hneI items).toS
        rw [hlen] at W
        refine set_loop_strs W s.heap.objs.size hSfp (fun i v hv => strs_at hi i v (by rw [Array.getElem?_toList]; exact hv)) hb (xs.length - 0) 0 _ (by omega) (Nat.zero_le _)
          ⟨⟨_, Heap.get?_push_size _ rfl, rfl, rfl⟩, (hl1.push _)⟩ ?hS0 ?hR
        case hS0 =>
          refine ⟨SO, #[], 0, .fresh 0 0 led, [], Heap.get?_push_of_some _ hS, by rw [← hSO]; exact ⟨rfl, rfl, rfl⟩, by rw [← hSO], fun e he => by simp at he, .nil, .refl _, by rfl, .inl rfl⟩
        case hR =>
          intro s' hm hS'
          obtain ⟨h', g', d', tk', os'⟩ := s'
          have eg : g' = s.gens := hm.gens
          have ed : d' = s.drawn := hm.drawn
          have eo : os' = s.os := hm.os
          subst eg; subst ed; subst eo
          show wpAny _ _ _ _ _ _
          refine wpAny_pure ?_
          show wpAny _ _ (ret Value.none) _ _ _
          refine wpAny_pure ⟨rfl, h', tk', rfl, hS', fun b o hb e => ?_⟩
          have hb1 : b ≠ s.heap.objs.size := Nat.ne_of_lt hb
          have hb2 : b ≠ (s.heap.push SO).objs.size := by
            rw [Heap.size_push]; exact Nat.ne_of_lt (Nat.lt_succ_of_lt hb)
          exact hm.heap b o (by simp only [List.mem_cons, List.not_mem_nil, or_false, not_or]; exact ⟨hb1, hb2⟩) (Heap.get?_push_of_some _ (Heap.get?_push_of_some _ e))
      · cases r₂ with
        | error e => exact hr₂
        | ok fl₂ =>
          cases fl₂ with
          | ret r =>
            obtain ⟨rfl, h', tk, rfl, hS', hk'⟩ := hr₂
            repeat (any_goals (first | assumption | wp_step))
            exact h _ _ hS' hk'
          | _ => exact hr₂.elim
    | _ => exact hr.elim
end

end Mine
end

-- S2
section
namespace Mine

theorem lines_S2_0 : True := by
  k_with_none
  trivial
open PySem.Calls PySem.Spec
theorem any_choose {M : Model} {A : Around} {E : Value → Shared → Prop} {s : Shared} {src : Source} {n : Nat} {Q : Nat → Shared → Prop} (hn : n ≠ 0) (h : ∀ i d, i < n → Q i { s with drawn := d }) : wpAny M A (choose src n) Q E s :=
  fun _ _ _ => ⟨hn, h _ _ (Nat.mod_lt _ (Nat.pos_of_ne_zero hn))⟩
theorem erase_perm {α : Type} : ∀ (l : List α) (i : Nat) (h : i < l.length), (l[i] :: l.eraseIdx i).Perm l
  | x :: l, 0, _ => .refl _
  | x :: l, i + 1, h => by
    have ih := erase_perm l i (by simpa using h)
    exact (List.Perm.swap x (l[i]'(by simpa using h)) (l.eraseIdx i)).trans (.cons x ih)
theorem draw_any {α : Type} {M : Model} {A : Around} {E : Value → Shared → Prop} : ∀ (n : Nat) (xs : List α) (s : Shared) (Q : List α → Shared → Prop), xs.length = n → (∀ zs d, zs.Perm xs → Q zs { s with drawn := d }) → wpAny M A (drawOrder n xs) Q E s
  | 0, xs, s, Q, hl, h => by
    obtain rfl := List.eq_nil_of_length_eq_zero hl
    exact wpAny_pure (by have := h [] s.drawn (.refl _); cases s; exact this)
  | n + 1, [], s, Q, hl, h => by simp at hl
  | n + 1, x :: r, s, Q, hl, h => by
    unfold drawOrder
    refine wpAny_bind (any_choose (by simp) fun i d hi => ?_)
    rw [List.getElem?_eq_getElem hi]
    refine wpAny_bind (draw_any n _ _ _ (by rw [List.length_eraseIdx_of_lt hi]; simp at hl; simp [hl]) fun zs d' hp => wpAny_pure ?_)
    exact h _ d' ((List.Perm.cons _ hp).trans (erase_perm _ _ hi))
theorem pick_go {α : Type} (next : Nat → Nat) : ∀ (n k : Nat) (xs : List α) (out : Array α), xs.length = n → (pickOrder.go next n k xs out).toList.Perm (out.toList ++ xs)
  | 0, k, xs, out, hl => by
    obtain rfl := List.eq_nil_of_length_eq_zero hl
    simp [pickOrder.go]
  | n + 1, k, xs, out, hl => by
    have hi : next k % xs.length < xs.length := Nat.mod_lt _ (by omega)
    unfold pickOrder.go
    rw [List.getElem?_eq_getElem hi]
    dsimp only
    refine (pick_go next n (k + 1) _ _ (by rw [List.length_eraseIdx_of_lt hi]; omega)).trans ?_
    rw [Array.toList_push, List.append_assoc]
    exact List.Perm.append_left _ (erase_perm _ _ hi)
theorem pick_perm {α : Type} (next : Nat → Nat) (xs : Array α) : (pickOrder next xs).toList.Perm xs.toList := by
  have := pick_go next xs.size 0 xs.toList #[] (by simp)
  simpa [pickOrder] using this
abbrev itO (first : Value) (i : Nat) (a : Addr) (n ep : Nat) : Obj := { cls := .type "set_iterator", data := .fields #[first, rawInt i, .ref a, rawInt n, rawInt ep] }
structure SetAt (h : Heap) (a : Addr) (es : Array (Int × Value)) (ep : Nat) (t : SetTable) : Prop where
  get : ∃ o, h.get? a = some o ∧ o.cls = .type "set" ∧ o.data = .set es ep t
  fits : t.fits es.size = true
theorem SetAt.keep {h h' : Heap} {a : Addr} {es : Array (Int × Value)} {ep : Nat} {t : SetTable} (H : SetAt h a es ep t) (k : ∀ o, h.get? a = some o → h'.get? a = some o) : SetAt h' a es ep t :=
  ⟨let ⟨o, ho, r⟩ := H.get; ⟨o, k o ho, r⟩, H.fits⟩
theorem entry_set_iter : entryFor table "set.__iter__" = some Builtin.«frozenset.__iter__» := entryFor_alias (id' := "frozenset.__iter__") (by kernel_rfl) rfl (by decide +kernel) (by kernel_rfl)
theorem slot_setiter_next : Slot "set_iterator" "__next__" "set_iterator.__next__" :=
  .of (owner := "set_iterator") (n := "__next__") (by rw [typeLookup_type, builtinLookup_eq_fast]; kernel_rfl) (by decide +kernel) (by decide +kernel) (by decide +kernel)
    (by first | exact .inl (by decide +kernel) | exact .inr (by decide +kernel)) (by rw [isSubtype_type]; kernel_rfl)
theorem entry_setiter_next : entryFor table "set_iterator.__next__" = some Builtin.«set_iterator.__next__» := entryFor_of_fast (by kernel_rfl)
theorem args_setiter_next (a : Value) : argsOk "set_iterator.__next__" ⟨[a], []⟩ := by unfold argsOk; kernel_rfl
theorem args_set_iter' (a : Value) : argsOk "set.__iter__" ⟨[a], []⟩ := by unfold argsOk; kernel_rfl
section
variable {prog : Program} {w : World} {A : Around} {E : Value → Shared → Prop} {s : Shared} {a : Addr} {es : Array (Int × Value)} {ep : Nat} {t : SetTable}
abbrev byT (w : World) : Bool := w.params.followText "set-order"
theorem iter_set {Q : Value → Shared → Prop} (H : SetAt s.heap a es ep t) (hnp : t.plain = false) (h2 : 2 ≤ es.size) (hz : es.size ≤ sizeLine)
    (hT : byT w = true → Q (.ref s.heap.objs.size) { s with heap := s.heap.push (itO (rawInt 0) 0 a es.size ep) })
    (hD : byT w = false → ∀ (ps : List Nat) d, ps.Perm (List.range es.size) → Q (.ref (s.heap.objs.size + 1)) { s with heap := (s.heap.push { cls := .type "tuple", data := .seq (ps.map fun i => rawInt (i : Nat)).toArray }).push (itO (.ref s.heap.objs.size) 0 a es.size ep), drawn := d }) :
    wpAny (model prog w) A (pyIter (.ref a)) Q E s := by
  obtain ⟨⟨o, ho, hc, hd⟩, hf⟩ := H
  have hTy : s.TypeIs (.ref a) "set" := ⟨o, ho, hc⟩
  refine wpAny_pyIter_slot hTy PySem.F.slot_set_iter (wpAny_call_entry PySem.F.slot_set_iter hTy entry_set_iter ?_ (args_set_iter' _))
  show wpAny _ _ (Builtin.Frozenset.sizeOf a >>= _) _ _ s
  unfold Builtin.Frozenset.sizeOf
  refine wpAny_bind (wpAny_bind (wpAny_setEntries_of ho hd hf (wpAny_pure ?_)))
  unfold setDrawn setsByText
  refine wpAny_bind (wpAny_bind (wpAny_setState_of ho hd hf (wpAny_bind (wpAny_bind (wpAny_askSetting (wpAny_pure (wpAny_pure ?_)))))))
  dsimp only
  cases hb : byT w with
  | true =>
    rw [if_neg (by show ¬ ((!(byT w) && _) = true); rw [hb]; simp)]
    refine wpAny_bind (wpAny_pure ?_)
    refine wpAny_bind (wpAny_setEpoch_of ho hd hf ?_)
    exact wpAny_bind (wpAny_newObj_type (wpAny_pure ⟨_, rfl, "set_iterator", _, ⟨_, Heap.get?_push_size _ rfl, rfl⟩, slot_setiter_next.lookup, hT hb⟩))
  | false =>
    rw [if_pos (by show (!(byT w) && (!t.plain && decide (es.size > 1))) = true; rw [hb, hnp]; simp; omega)]
    refine wpAny_bind (draw_any _ _ _ _ (by simp) fun ps d hp => ?_)
    have hl : ps.length = es.size := by rw [hp.length_eq]; simp
    refine wpAny_bind (wpAny_newTuple ?_ (by simp [hl]; exact hz))
    refine wpAny_bind (wpAny_setEpoch_of (Heap.get?_push_of_some _ ho) hd hf ?_)
    have hQ := hD hb ps d hp
    rw [← Heap.size_push] at hQ
    exact wpAny_bind (wpAny_newObj_type (wpAny_pure ⟨_, rfl, "set_iterator", _, ⟨_, Heap.get?_push_size _ rfl, rfl⟩, slot_setiter_next.lookup, hQ⟩))
theorem stops {I : Addr} {o : Obj} {vs : Array Value} {Q : Option Value → Shared → Prop} (hh : A.handled = none) (hI : s.heap.get? I = some o) (hd : o.data = .fields vs) (hv : 2 < vs.size)
    (hQ : ∀ h', Heap.ExtBut I s.heap h' → Q none { s with heap := h' }) :
    wpAny (model prog w) A.in1 (do setField (.ref I) 2 Value.none; let x ← newExc (.type "StopIteration") []; raiseNew x : Sem Fin) (fun _ _ => False)
      (fun e s' => wpAny (model prog w) A (do if ← isInstance e (.type "StopIteration") then pure none else throw e) Q E s') s := by
  refine wpAny_bind (wpAny_setField hI hd hv ?_)
  refine wpAny_bind ?_
  simp only [newExc, newTuple]
  refine wpAny_bind (wpAny_newObj_type ?_ (by size_fits))
  refine wpAny_bind (m := firstArgMember _ _) (wpAny_of_eq (a := Value.none) (by first | rfl | (simp only [firstArgMember]; rfl)) ?_)
  refine wpAny_newObj_type ?_ (by size_fits)
  simp only [raiseNew]
  refine wpAny_bind (wpAny_handled ?_)
  rw [show A.in1.handled = none from hh]
  refine wpAny_bind (wpAny_pure (wpAny_throw ?_))
  refine wpAny_bind (wpAny_isInstance (T := "StopIteration") (b := true) ⟨_, Heap.get?_push_size _ rfl, rfl⟩ PySem.isSubtype_stop ?_)
  exact wpAny_pure (hQ _ (((Heap.SameBut.update ..).extBut.push _).push _))
theorem setNext_text {i : Nat} {Q : Option (Value × Nat) → Shared → Prop} (H : SetAt s.heap a es ep t) (hb : byT w = true) (h : Q (((pickOrder (w.params.setOrder a ep) es)[i]?).map fun e => (e.2, 0)) s) :
    wpAny (model prog w) A (setNext a 0 i ep) Q E s := by
  obtain ⟨⟨o, ho, hc, hd⟩, hf⟩ := H
  have hb' : ({ program := (model prog w).prog, params := (model prog w).w.params } : Setting).params.followText "set-order" = true := hb
  unfold setNext setWalk setsByText
  refine wpAny_bind (wpAny_setState_of ho hd hf ?_)
  dsimp only
  refine wpAny_bind (wpAny_bind (wpAny_askSetting (wpAny_pure ?_)))
  rw [if_pos hb', if_neg (by simp)]
  refine wpAny_bind (wpAny_bind (wpAny_setState_of ho hd hf ?_))
  dsimp only
  refine wpAny_bind (wpAny_bind (wpAny_askSetting (wpAny_pure ?_)))
  rw [if_pos hb']
  refine wpAny_bind (wpAny_askSetting (wpAny_pure ?_))
  exact wpAny_pure h
theorem nextT {I : Addr} {i : Nat} {Q : Option Value → Shared → Prop} (hh : A.handled = none) (hI : s.heap.get? I = some (itO (rawInt 0) i a es.size ep)) (H : SetAt s.heap a es ep t) (hb : byT w = true)
    (hsome : ∀ x, (pickOrder (w.params.setOrder a ep) es)[i]? = some x → ∀ h', Heap.SameBut I s.heap h' → h'.get? I = some (itO (rawInt 0) (i + 1) a es.size ep) → Q (some x.2) { s with heap := h' })
    (hnone : (pickOrder (w.params.setOrder a ep) es)[i]? = none → ∀ h', Heap.ExtBut I s.heap h' → Q none { s with heap := h' }) :
    wpAny (model prog w) A (pyNext (.ref I)) Q E s := by
  have H' := H
  obtain ⟨⟨o, ho, hc, hd⟩, hf⟩ := H
  unfold pyNext
  have hTy : s.TypeIs (.ref I) "set_iterator" := ⟨_, hI, rfl⟩
  refine wpAny_bind (wpAny_attempt (wpAny_callSpecial?_slot (name := Str.ofString "__next__") hTy slot_setiter_next
    (wpAny_call_entry slot_setiter_next hTy entry_setiter_next ?_ (args_setiter_next _))))
  show wpAny _ _ (fieldsOf (.ref I) >>= _) _ _ s
  refine wpAny_bind (wpAny_fieldsOf hI rfl ?_)
  show wpAny _ _ (setEntries a >>= _) _ _ s
  refine wpAny_bind (wpAny_setEntries_of ho hd hf ?_)
  rw [if_neg (by simp)]
  show wpAny _ _ (setNext a 0 i ep >>= _) _ _ s
  refine wpAny_bind (setNext_text H' hb ?_)
  cases hx : (pickOrder (w.params.setOrder a ep) es)[i]? with
  | some x =>
    dsimp only [Option.map]
    refine wpAny_bind (wpAny_setField hI rfl (by simp) ?_)
    have hI1 := Heap.get?_update_self (Obj.mapFields (·.setIfInBounds 0 (rawInt (0 : Nat)))) hI (Obj.isFreed_of_fields (Obj.data_mapFields rfl _))
    refine wpAny_bind (wpAny_setField hI1 (Obj.data_mapFields rfl _) (by simp) ?_)
    have hI2 := Heap.get?_update_self (Obj.mapFields (·.setIfInBounds 1 (rawInt ((i : Int) + 1)))) hI1 (Obj.isFreed_of_fields (Obj.data_mapFields (Obj.data_mapFields rfl _) _))
    refine wpAny_pure ⟨x.2, rfl, wpAny_pure (hsome x hx _ ((Heap.SameBut.update ..).trans (Heap.SameBut.update ..)) (hI2.trans rfl))⟩
  | none =>
    exact wpAny_mono (stops hh hI rfl (by simp) (hnone hx)) (fun _ _ x => x.elim) (fun _ _ x => x)
theorem nextD {I T : Addr} {i : Nat} {ps : List Nat} {oT : Obj} {Q : Option Value → Shared → Prop} (hh : A.handled = none) (hI : s.heap.get? I = some (itO (.ref T) i a es.size ep)) (H : SetAt s.heap a es ep t)
    (hT : s.heap.get? T = some oT) (hTd : oT.data = .seq (ps.map fun i => rawInt (i : Nat)).toArray 0) (hps : ∀ p ∈ ps, p < es.size)
    (hsome : ∀ p x, ps[i]? = some p → es[p]? = some x → ∀ h', Heap.SameBut I s.heap h' → h'.get? I = some (itO (.ref T) (i + 1) a es.size ep) → Q (some x.2) { s with heap := h' })
    (hnone : ps[i]? = none → ∀ h', Heap.ExtBut I s.heap h' → Q none { s with heap := h' }) :
    wpAny (model prog w) A (pyNext (.ref I)) Q E s := by
  obtain ⟨⟨o, ho, hc, hd⟩, hf⟩ := H
  unfold pyNext
  have hTy : s.TypeIs (.ref I) "set_iterator" := ⟨_, hI, rfl⟩
  refine wpAny_bind (wpAny_attempt (wpAny_callSpecial?_slot (name := Str.ofString "__next__") hTy slot_setiter_next
    (wpAny_call_entry slot_setiter_next hTy entry_setiter_next ?_ (args_setiter_next _))))
  show wpAny _ _ (fieldsOf (.ref I) >>= _) _ _ s
  refine wpAny_bind (wpAny_fieldsOf hI rfl ?_)
  show wpAny _ _ (setEntries a >>= _) _ _ s
  refine wpAny_bind (wpAny_setEntries_of ho hd hf ?_)
  rw [if_neg (by simp)]
  show wpAny _ _ (seqItems? (.ref T) >>= _) _ _ s
  refine wpAny_bind (wpAny_seqItems hT hTd ?_)
  dsimp only
  rw [Int.toNat_natCast]
  cases hp : ps[i]? with
  | some p =>
    have hlt := hps p (List.mem_of_getElem? hp)
    have hx : es[p]? = some es[p] := Array.getElem?_eq_getElem hlt
    rw [show (ps.map fun i => rawInt (i : Nat)).toArray[i]? = some (rawInt (p : Nat)) by simp [hp]]
    show wpAny _ _ (setNextDrawn a p ep >>= _) _ _ s
    unfold setNextDrawn
    refine wpAny_bind (wpAny_bind (wpAny_setState_of ho hd hf ?_))
    dsimp only
    rw [if_neg (by simp), hx]
    refine wpAny_pure ?_
    refine wpAny_bind (wpAny_setField hI rfl (by simp) ?_)
    have hI2 := Heap.get?_update_self (Obj.mapFields (·.setIfInBounds 1 (rawInt ((i : Int) + 1)))) hI (Obj.isFreed_of_fields (Obj.data_mapFields rfl _))
    exact wpAny_pure ⟨_, rfl, wpAny_pure (hsome p _ hp hx _ (Heap.SameBut.update ..) (hI2.trans rfl))⟩
  | none =>
    rw [show (ps.map fun i => rawInt (i : Nat)).toArray[i]? = none by simp [hp]]
    refine wpAny_bind (wpAny_setField hI rfl (by simp) ?_)
    have hI1 := Heap.get?_update_self (Obj.mapFields (·.setIfInBounds 0 (rawInt 0))) hI (Obj.isFreed_of_fields (Obj.data_mapFields rfl _))
    refine wpAny_mono (stops (s := { s with heap := _ }) hh hI1 (Obj.data_mapFields rfl _) (by simp) fun h' he => hnone hp h' fun b o' hb e => he b o' hb ((Heap.SameBut.update ..).extBut b o' hb e)) (fun _ _ x => x.elim) (fun _ _ x => x)
end

end Mine
end

-- S3
section
namespace Mine

theorem lines_S3_0 : True := by
  k_with_none
  trivial
open PySem.Calls PySem.Spec
theorem slot_setiter_iter : Slot "set_iterator" "__iter__" "set_iterator.__iter__" :=
  .of (owner := "set_iterator") (n := "__iter__") (by rw [typeLookup_type, builtinLookup_eq_fast]; kernel_rfl) (by decide +kernel) (by decide +kernel) (by decide +kernel)
    (by first | exact .inl (by decide +kernel) | exact .inr (by decide +kernel)) (by rw [isSubtype_type]; kernel_rfl)
theorem entry_setiter_iter : entryFor table "set_iterator.__iter__" = some Builtin.«dict_keyiterator.__iter__» := entryFor_alias (id' := "dict_keyiterator.__iter__") (by kernel_rfl) rfl (by decide +kernel) (by kernel_rfl)
theorem args_setiter_iter (a : Value) : argsOk "set_iterator.__iter__" ⟨[a], []⟩ := by unfold argsOk; kernel_rfl
section
variable {prog : Program} {w : World} {A : Around} {E : Value → Shared → Prop} {s : Shared} {a : Addr} {es : Array (Int × Value)} {ep : Nat} {t : SetTable}
theorem iter_self {I : Addr} {o : Obj} {Q : Value → Shared → Prop} (hI : s.heap.get? I = some o) (hc : o.cls = .type "set_iterator") (h : Q (.ref I) s) : wpAny (model prog w) A (pyIter (.ref I)) Q E s := by
  have hT : s.TypeIs (.ref I) "set_iterator" := ⟨o, hI, hc⟩
  refine wpAny_pyIter_slot hT slot_setiter_iter (wpAny_call_entry slot_setiter_iter hT entry_setiter_iter ?_ (args_setiter_iter _))
  show wpAny _ _ (ret (.ref I)) _ _ s
  exact wpAny_pure ⟨_, rfl, "set_iterator", _, hT, slot_setiter_next.lookup, h⟩
theorem walksT (hh : A.handled = none) (hb : byT w = true) (I : Addr) (hne : a ≠ I) : Walks prog w A I [I, a] [I] es.size (fun i v => ((pickOrder (w.params.setOrder a ep) es)[i]?).map (·.2) = some v)
    (fun i h => h.get? I = some (itO (rawInt 0) i a es.size ep) ∧ SetAt h a es ep t) where
  sub := fun b hb => by simp at hb; simp [hb]
  frame := fun _ _ _ st hk => ⟨hk I (by simp) _ st.1, st.2.keep fun o e => hk a (by simp) o e⟩
  item := fun i s Q E hi st hQ => by
    refine nextT hh st.1 st.2 hb (fun x hx h' hsb hI' => ?_) (fun hn => ?_)
    · exact hQ _ h' s.toks (by rw [hx]; rfl) ⟨hI', st.2.keep fun o e => hsb.extBut a o hne e⟩ fun b o hb e => hsb.extBut b o (fun h => hb (by simp [h])) e
    · have hz : (pickOrder (w.params.setOrder a ep) es).size = es.size := by rw [← Array.length_toList, (pick_perm _ es).length_eq, Array.length_toList]
      rw [Array.getElem?_eq_none_iff] at hn
      omega
  done := fun s Q E st hQ => by
    refine nextT hh st.1 st.2 hb (fun x hx => ?_) (fun _ h' he => ?_)
    · have hz : (pickOrder (w.params.setOrder a ep) es).size = es.size := by rw [← Array.length_toList, (pick_perm _ es).length_eq, Array.length_toList]
      have := (Array.getElem?_eq_some_iff.mp hx).1
      omega
    · exact hQ h' s.toks fun b o hb e => he b o (fun h => hb (by simp [h])) e
  self := fun i s Q E st hQ => iter_self st.1 rfl hQ
theorem walksD (hh : A.handled = none) (I T : Addr) (hne : a ≠ I) (hnT : T ≠ I) (ps : List Nat) (hp : ps.Perm (List.range es.size)) (oT : Obj) (hTd : oT.data = .seq (ps.map fun i => rawInt (i : Nat)).toArray 0) :
    Walks prog w A I [I, a, T] [I] es.size (fun i v => ∃ p x, ps[i]? = some p ∧ es[p]? = some x ∧ v = x.2)
    (fun i h => h.get? I = some (itO (.ref T) i a es.size ep) ∧ SetAt h a es ep t ∧ h.get? T = some oT) where
  sub := fun b hb => by simp at hb; simp [hb]
  frame := fun _ _ _ st hk => ⟨hk I (by simp) _ st.1, st.2.1.keep fun o e => hk a (by simp) o e, hk T (by simp) _ st.2.2⟩
  item := fun i s Q E hi st hQ => by
    refine nextD hh st.1 st.2.1 st.2.2 hTd (fun p hm => by simpa using (hp.mem_iff.mp hm)) (fun p x h1 h2 h' hsb hI' => ?_) (fun hn => ?_)
    · exact hQ _ h' s.toks ⟨p, x, h1, h2, rfl⟩ ⟨hI', st.2.1.keep fun o e => hsb.extBut a o hne e, hsb.extBut T oT hnT st.2.2⟩ fun b o hb e => hsb.extBut b o (fun h => hb (by simp [h])) e
    · have hl : ps.length = es.size := by rw [hp.length_eq]; simp
      rw [List.getElem?_eq_none_iff] at hn
      omega
  done := fun s Q E st hQ => by
    refine nextD hh st.1 st.2.1 st.2.2 hTd (fun p hm => by simpa using (hp.mem_iff.mp hm)) (fun p x h1 => ?_) (fun _ h' he => ?_)
    · have hl : ps.length = es.size := by rw [hp.length_eq]; simp
      have := (List.getElem?_eq_some_iff.mp h1).1
      omega
    · exact hQ h' s.toks fun b o hb e => he b o (fun h => hb (by simp [h])) e
  self := fun i s Q E st hQ => iter_self st.1 rfl hQ
theorem hint_set {Q : Bool → Shared → Prop} (H : SetAt s.heap a es ep t) (h : Q false s) : wpAny (model prog w) A (Builtin.List.listLengthHint (.ref a)) Q E s := by
  obtain ⟨⟨o, ho, hc, hd⟩, hf⟩ := H
  have hTy : s.TypeIs (.ref a) "set" := ⟨o, ho, hc⟩
  unfold Builtin.List.listLengthHint
  refine wpAny_bind (wpAny_specialOf hTy PySem.F.slot_set_len.lookup ?_)
  (generalize hid : ("set.__len__" : String) = id0; wp_delta; rw [show splitId id0 = some ("set", "__len__") from by subst hid; decide +kernel]; subst hid)
  refine wpAny_bind (wpAny_isInstance (b := true) hTy (by rw [isSubtype_type]; kernel_rfl) ?_)
  rw [if_neg (by decide)]
  dsimp only
  rw [if_pos (by decide +kernel)]
  refine wpAny_bind (wpAny_typeOf hTy ?_)
  exact wpAny_pure h
theorem items_T {acc : Array Value} (H : ItemsOf (fun i v => ((pickOrder (w.params.setOrder a ep) es)[i]?).map (·.2) = some v) acc es.size) : acc.toList.Perm (es.toList.map (·.2)) := by
  have e : acc.toList = (pickOrder (w.params.setOrder a ep) es).toList.map (·.2) := by
    apply List.ext_getElem?
    intro i
    by_cases hi : i < acc.size
    · have h1 := H.2 i acc[i] (Array.getElem?_eq_getElem hi)
      rw [List.getElem?_map, Array.getElem?_toList, Array.getElem?_toList, Array.getElem?_eq_getElem hi, h1]
    · have hz : (pickOrder (w.params.setOrder a ep) es).size = es.size := by rw [← Array.length_toList, (pick_perm _ es).length_eq, Array.length_toList]
      rw [List.getElem?_eq_none (by rw [Array.length_toList]; omega), List.getElem?_eq_none (by rw [List.length_map, Array.length_toList, hz, ← H.1]; omega)]
  rw [e]
  exact (pick_perm _ es).map _
theorem items_D {acc : Array Value} {ps : List Nat} (hp : ps.Perm (List.range es.size)) (H : ItemsOf (fun i v => ∃ p x, ps[i]? = some p ∧ es[p]? = some x ∧ v = x.2) acc es.size) : acc.toList.Perm (es.toList.map (·.2)) := by
  have hl : ps.length = es.size := by rw [hp.length_eq]; simp
  have e : acc.toList = ps.map fun p => (es.toList.map (·.2)).getD p .none := by
    apply List.ext_getElem?
    intro i
    by_cases hi : i < acc.size
    · obtain ⟨p, x, h1, h2, h3⟩ := H.2 i acc[i] (Array.getElem?_eq_getElem hi)
      rw [List.getElem?_map, Array.getElem?_toList, Array.getElem?_eq_getElem hi, h1, h3]
      show _ = some ((es.toList.map (·.2)).getD p .none)
      rw [List.getD_eq_getElem?_getD, List.getElem?_map, Array.getElem?_toList, h2]
      rfl
    · rw [List.getElem?_eq_none (by rw [Array.length_toList]; omega), List.getElem?_eq_none (by rw [List.length_map, hl, ← H.1]; omega)]
  rw [e]
  refine (hp.map _).trans ?_
  have e2 : (List.range es.size).map (fun p => (es.toList.map (·.2)).getD p .none) = es.toList.map (·.2) := by
    apply List.ext_getElem?
    intro i
    rw [List.getElem?_map]
    by_cases hi : i < es.size
    · rw [List.getElem?_range hi]
      show some ((es.toList.map (·.2)).getD i .none) = _
      rw [List.getD_eq_getElem?_getD, List.getElem?_map, Array.getElem?_toList, Array.getElem?_eq_getElem hi]
      rfl
    · rw [List.getElem?_eq_none (by simp; omega), List.getElem?_eq_none (by simp; omega)]
      rfl
  rw [e2]
/-- the rest of the collecting, the iterator made -/
theorem ext_tail {I S : Addr} {fp : List Addr} {P : Nat → Value → Prop} {St : Nat → Heap → Prop} {Q : List Value → Shared → Prop} (W : Walks prog w A.in1 I fp [I] es.size P St) (hst : St 0 s.heap) (hSf : S ∉ fp)
    (hS : s.heap.get? S = some { cls := .type "list", data := .seq #[] 0 }) (H : SetAt s.heap a es ep t) (hz : es.size ≤ sizeLine)
    (hQ : ∀ s' acc, (∀ b o, b ≠ S → b ≠ I → s.heap.get? b = some o → s'.heap.get? b = some o) → s'.gens = s.gens → s'.os = s.os → ItemsOf P acc es.size → Q acc.toList s') :
    wpAny (model prog w) A.in1 (do
      let room ← holding [.ref I] (Builtin.List.listLengthHint (.ref a))
      if room || ["set", "frozenset", "dict", "dict_keys", "dict_values", "dict_items"].any (Value.type "set" == .type ·) then
        rule "list.extend.makes-room"
        Builtin.List.listTouch (.ref S)
      again (.builtin "list.extend.loop" ⟨[.ref S, .ref I, .ref S], []⟩))
      (fun fin s' => match fin with | .done f => (match f with | .ret r => wpAny (model prog w) A (match r with | .ref a => do (match (← load a).data with | .seq xs _ => pure xs.toList | _ => unsupported "internal:collect") | _ => unsupported "internal:collect") Q E s' | _ => False) | .again c' => c'.quiet = true ∧ codeAny (model prog w) A c' (fun r s'' => match r with | .ok (.ret r) => wpAny (model prog w) A (match r with | .ref a => do (match (← load a).data with | .seq xs _ => pure xs.toList | _ => unsupported "internal:collect") | _ => unsupported "internal:collect") Q E s'' | .ok _ => False | .error e => E e s'') s') E s := by
  refine wpAny_bind (wpAny_holding (hint_set H ?_))
  rw [if_pos (by decide)]
  refine wpAny_bind (wpAny_rule ?_)
  refine wpAny_bind ?_
  show wpAny _ A.in1 (updateSeq S (·.push .none) >>= fun _ => updateSeq S (·.pop)) _ _ _
  refine wpAny_bind (wpAny_updateSeq hS rfl ?_)
  have hS₂ := Heap.get?_update_self (Obj.mapSeq (·.push Value.none)) hS rfl
  refine wpAny_updateSeq hS₂ rfl ?_
  have hS₃ := Heap.get?_update_self (Obj.mapSeq (·.pop)) hS₂ rfl
  have oth : ∀ b o, b ≠ S → s.heap.get? b = some o → ((s.heap.update S (Obj.mapSeq (·.push Value.none))).update S (Obj.mapSeq (·.pop))).get? b = some o :=
    fun b o hb e => (Heap.get?_update_other _ _ (Ne.symm hb)).trans ((Heap.get?_update_other _ _ (Ne.symm hb)).trans e)
  refine wpAny_pure ⟨plainId_quiet PySem.F.plain_extend_loop _, codeAny_extend_loopS W.toS hz S hSf _ es.size 0 _ _ _ rfl (Nat.zero_le _) (W.frame 0 _ _ hst fun b hb o e => oth b o (fun h => hSf (h ▸ hb)) e) hS₃ (ItemsOf.nil P) fun s' acc' c' hm hS' hacc => ?_⟩
  show wpAny _ A (load S >>= _) _ _ s'
  refine wpAny_bind (wpAny_load hS' ?_)
  refine wpAny_pure (hQ s' acc' (fun b o h1 h2 e => hm.heap b o (by simp [h1, h2]) (oth b o h1 e)) hm.gens hm.os hacc)
theorem collect_set {Q : List Value → Shared → Prop} (hh : A.handled = none) (H : SetAt s.heap a es ep t) (hnp : t.plain = false) (h2 : 2 ≤ es.size) (hz : es.size ≤ sizeLine)
    (h : ∀ vs s', (∀ b o, s.heap.get? b = some o → s'.heap.get? b = some o) → vs.Perm (es.toList.map (·.2)) → s'.gens = s.gens → s'.os = s.os → Q vs s') : wpAny (model prog w) A (collect (.ref a)) Q E s := by
  have ha : a < s.heap.objs.size := let ⟨_, ho, _⟩ := H.get; Heap.lt_size ho
  unfold collect
  refine wpAny_bind (wpAny_runValue (codeAny_builtin PySem.F.entry_proto_collect ?_))
  rw [Around.under_plainId PySem.F.plain_proto_collect _]
  show wpAny _ A.in1 (newList [] >>= fun l => again (.builtin "list.__iadd__" ⟨[l, .ref a], []⟩)) _ _ s
  refine wpAny_bind (wpAny_newObj_type ?_)
  refine wpAny_pure ⟨plainId_quiet PySem.F.plain_list_iadd _, codeAny_builtin PySem.F.entry_list_iadd ?_⟩
  rw [Around.under_plainId PySem.F.plain_list_iadd _]
  show wpAny _ A.in1 (Builtin.List.listExtendWith (.ref s.heap.objs.size) (.ref a) (.ref s.heap.objs.size)) _ _ _
  have H1 : SetAt (s.heap.push { cls := .type "list", data := .seq ([] : List Value).toArray }) a es ep t := H.keep fun o e => Heap.get?_push_of_some _ e
  have hS₁ : (s.heap.push { cls := .type "list", data := .seq ([] : List Value).toArray }).get? s.heap.objs.size = some { cls := .type "list", data := .seq ([] : List Value).toArray } := Heap.get?_push_size _ rfl
  unfold Builtin.List.listExtendWith
  obtain ⟨o, ho, hc, hd⟩ := H1.get
  refine wpAny_bind (wpAny_typeOf (T := "set") ⟨o, ho, hc⟩ ?_)
  rw [if_neg (by simp [Builtin.List.listSameRef, Nat.ne_of_gt ha])]
  refine wpAny_bind (iter_set H1 hnp h2 hz (fun hb => ?_) (fun hb ps d hp => ?_))
  · refine wpAny_mono (ext_tail (a := a) (es := es) (ep := ep) (t := t) (I := (s.heap.push { cls := .type "list", data := .seq ([] : List Value).toArray }).objs.size) (S := s.heap.objs.size) (walksT (ep := ep) (t := t) (by simpa using hh) hb _ (by rw [Heap.size_push]; exact Nat.ne_of_lt (Nat.lt_succ_of_lt ha))) ⟨Heap.get?_push_size _ rfl, H1.keep fun o e => Heap.get?_push_of_some _ e⟩
      (by rw [Heap.size_push]; simp only [List.mem_cons, List.not_mem_nil, or_false, not_or]; exact ⟨Nat.ne_of_lt (Nat.lt_succ_self _), Nat.ne_of_gt ha⟩) (Heap.get?_push_of_some _ hS₁) (H1.keep fun o e => Heap.get?_push_of_some _ e) hz
      (fun s' acc k1 k2 k3 hacc => h _ s' (fun b o e => k1 b o (Nat.ne_of_lt (Heap.lt_size e)) (by rw [Heap.size_push]; exact Nat.ne_of_lt (Nat.lt_succ_of_lt (Heap.lt_size e))) (Heap.get?_push_of_some _ (Heap.get?_push_of_some _ e))) (items_T hacc) k2 k3)) (fun fin s' hx => ?_) (fun _ _ hx => hx)
    cases fin with
    | done f => cases f <;> exact hx
    | again c' => exact hx
  · have e1 : (s.heap.push { cls := .type "list", data := .seq ([] : List Value).toArray }).objs.size = s.heap.objs.size + 1 := Heap.size_push ..
    have hT1 := Heap.get?_push_size (s.heap.push { cls := .type "list", data := .seq ([] : List Value).toArray }) (o := { cls := .type "tuple", data := .seq (ps.map fun i => rawInt (i : Nat)).toArray }) rfl
    have e2 : ((s.heap.push { cls := .type "list", data := .seq ([] : List Value).toArray }).push { cls := .type "tuple", data := .seq (ps.map fun i => rawInt (i : Nat)).toArray }).objs.size = s.heap.objs.size + 1 + 1 := by rw [Heap.size_push, e1]
    have hI1 := Heap.get?_push_size ((s.heap.push { cls := .type "list", data := .seq ([] : List Value).toArray }).push { cls := .type "tuple", data := .seq (ps.map fun i => rawInt (i : Nat)).toArray }) (o := itO (.ref (s.heap.push { cls := .type "list", data := .seq ([] : List Value).toArray }).objs.size) 0 a es.size ep) rfl
    have e3 : ((s.heap.push { cls := .type "list", data := .seq ([] : List Value).toArray }).push { cls := .type "tuple", data := .seq (ps.map fun i => rawInt (i : Nat)).toArray }).objs.size = (s.heap.push { cls := .type "list", data := .seq ([] : List Value).toArray }).objs.size + 1 := Heap.size_push ..
    rw [e3] at hI1
    refine wpAny_mono (ext_tail (a := a) (es := es) (ep := ep) (t := t) (I := (s.heap.push { cls := .type "list", data := .seq ([] : List Value).toArray }).objs.size + 1) (S := s.heap.objs.size) (walksD (ep := ep) (t := t) (by simpa using hh) _ (s.heap.push { cls := .type "list", data := .seq ([] : List Value).toArray }).objs.size (by rw [e1]; exact Nat.ne_of_lt (Nat.lt_succ_of_lt (Nat.lt_succ_of_lt ha))) (Nat.ne_of_lt (Nat.lt_succ_self _)) ps hp _ rfl)
      ⟨hI1, H1.keep fun o e => Heap.get?_push_of_some _ (Heap.get?_push_of_some _ e), Heap.get?_push_of_some _ hT1⟩
      (by rw [e1]; simp only [List.mem_cons, List.not_mem_nil, or_false, not_or]; exact ⟨Nat.ne_of_lt (Nat.lt_succ_of_lt (Nat.lt_succ_self _)), Nat.ne_of_gt ha, Nat.ne_of_lt (Nat.lt_succ_self _)⟩) (Heap.get?_push_of_some _ (Heap.get?_push_of_some _ hS₁)) (H1.keep fun o e => Heap.get?_push_of_some _ (Heap.get?_push_of_some _ e)) hz
      (fun s' acc k1 k2 k3 hacc => h _ s' (fun b o e => k1 b o (Nat.ne_of_lt (Heap.lt_size e)) (by rw [e1]; exact Nat.ne_of_lt (Nat.lt_succ_of_lt (Nat.lt_succ_of_lt (Heap.lt_size e)))) (Heap.get?_push_of_some _ (Heap.get?_push_of_some _ (Heap.get?_push_of_some _ e)))) (items_D hp hacc) k2 k3)) (fun fin s' hx => ?_) (fun _ _ hx => hx)
    cases fin with
    | done f => cases f <;> exact hx
    | again c' => exact hx
/-- sorted(a set of texts) -/
theorem sorted_set {ys : List Str} {Q : Value → Shared → Prop} (hh : A.handled = none) (hS : SetS prog w s.heap a ys) (h2 : 2 ≤ ys.length) (h64 : ys.length < 64)
    (h : ∀ l s' (out : Array Value) ss' e, (∀ b o, s.heap.get? b = some o → s'.heap.get? b = some o) → s'.gens = s.gens → s'.os = s.os → s.heap.get? l = none → (∀ b o, s.heap.get? b = some o → b < l) → s'.heap.get? l = some (seqObj "list" out e) →
      StrsAre out.toList ss' → ss'.Perm ys → sortedS ss' = true → Q (.ref l) s') :
    wpAny (model prog w) A (call (.builtin "sorted") [.ref a]) Q E s := by
  obtain ⟨o, es, ep, t, zs, ho, hex, hd, hel, hz, hp, hf, hpl⟩ := hS
  have hn : es.size = ys.length := by rw [← hp.length_eq, ← hz.len_eq, List.length_map, Array.length_toList]
  have hnp : t.plain = false := hpl.resolve_left (by omega)
  refine Calls.call_function_entry kind_sorted plain_sorted entry_sorted (args_sorted1 _) ?_
  unfold Builtin.«sorted»
  refine wpAny_bind (m := checkCount "sorted" 1 1 _) (wpAny_pure ?_)
  refine wpAny_bind (collect_set (by simpa using hh) ⟨⟨o, ho, hex.1, hd⟩, hf⟩ hnp (by omega) (by rw [sizeLine_eq]; omega) fun vs s₁ k1 kp k2 k3 => ?_)
  obtain ⟨xs, hxs, hxp⟩ := strs_perm kp hz
  have hvl : vs.length = ys.length := by rw [hxs.len_eq, hxp.length_eq, hp.length_eq]
  refine wpAny_bind (wpAny_newList ?_ (by rw [sizeLine_eq]; omega))
  have hoL : (s₁.heap.push (seqObj "list" vs.toArray 0)).get? s₁.heap.objs.size = some (seqObj "list" vs.toArray 0) := Heap.get?_push_size _ rfl
  refine wpAny_bind (wpAny_holding (wpAny_call_entry slot_list_sort ⟨_, hoL, rfl⟩ entry_list_sort (list_sort_treeK strKind_oneLt hoL hxs.keysOf (fun v₁ v₂ rest e => keyKind_strs (by rw [← e]; exact hxs)) (by omega) fun st' a1 a2 => ⟨_, rfl, ?_⟩) (args_list_sort _)))
  obtain ⟨ss', b1, b2, b3⟩ := sorted_out_str hxs a1 a2
  obtain ⟨e, he⟩ := sortedHeap_at (out := (arrOf st').map (·.2)) hoL
  have hlt : ∀ b o, s.heap.get? b = some o → b < s₁.heap.objs.size := fun b o q => Heap.lt_size (k1 b o q)
  have hnone : s.heap.get? s₁.heap.objs.size = none := by
    cases hq : s.heap.get? s₁.heap.objs.size with
    | none => rfl
    | some o => exact absurd (hlt _ _ hq) (Nat.lt_irrefl _)
  have hold : ∀ b o, s.heap.get? b = some o → (sortedHeap (s₁.heap.push (seqObj "list" vs.toArray 0)) s₁.heap.objs.size vs ((arrOf st').map (·.2))).get? b = some o := fun b o q => by
    refine (sortedHeap_old (Nat.ne_of_lt (hlt b o q)) ?_).trans (Heap.get?_push_of_some _ (k1 b o q))
    rw [Heap.size_push]
    exact Nat.lt_succ_of_lt (hlt b o q)
  show wpAny (model prog w) A.in1 (ret (Value.ref s₁.heap.objs.size)) _ E { s₁ with heap := sortedHeap (s₁.heap.push (seqObj "list" vs.toArray 0)) s₁.heap.objs.size vs ((arrOf st').map (·.2)) }
  generalize sortedHeap (s₁.heap.push (seqObj "list" vs.toArray 0)) s₁.heap.objs.size vs ((arrOf st').map (·.2)) = H' at he hold ⊢
  exact wpAny_pure ⟨_, rfl, h s₁.heap.objs.size { s₁ with heap := H' } ((arrOf st').map (·.2)) ss' e hold k2 k3 hnone hlt he b1 (b2.trans (hxp.trans hp)) b3⟩
end

end Mine
end

-- N2
section
namespace Mine

theorem lines_N2_0 : True := by
  k_with_none
  trivial
open PySem.Calls PySem.Spec
/-! two made tuples compared -/
theorem strs_okAll (ss : List Str) (h : ss.all PyData.strOk = true) : PyData.canLayAll0 (ss.map .str) = true := by rw [canLayAll_strs']; exact h
theorem shaped_pair {xs : List Str} {i : Int} (h : xs.all PyData.strOk = true) : SeqAt.shaped (.tuple [.list (xs.map .str), .int i]) = true := by
  simp [SeqAt.shaped, PyData.canLay0, PyData.canLayAll0, PyData.depth, PyData.depthAll, strs_okAll xs h, depthAll_strs']
theorem shaped_two {xs ys : List Str} (h : xs.all PyData.strOk = true) (h' : ys.all PyData.strOk = true) : SeqAt.shaped (.tuple [.list (xs.map .str), .list (ys.map .str)]) = true := by
  simp [SeqAt.shaped, PyData.canLay0, PyData.canLayAll0, PyData.depth, PyData.depthAll, strs_okAll xs h, strs_okAll ys h', depthAll_strs']
section
variable {prog : Program} {w : World} {A : Around} {E : Value → Shared → Prop} {s : Shared} {h₀ : Heap} {L : Addr} {m : Str → Option Value} {news : List (Addr × Obj)}
theorem ne_pair {p q a b : Addr} {op oq : Obj} {np nq na nb : Nat} {ia ib : Array Value} {i : Int} {t u : Tok} {xs : List Str} {Q : Value → Shared → Prop}
    (N : News h₀ L s.heap news) (hp : (p, op) ∈ news) (hpc : op.cls = .type "tuple") (hpd : op.data = .seq #[.ref a, .int i t] np) (ha : (a, listOf ia na) ∈ news) (hq : (q, oq) ∈ news) (hqc : oq.cls = .type "tuple") (hqd : oq.data = .seq #[.ref b, .int i u] nq) (hb : (b, listOf ib nb) ∈ news)
    (hxa : StrsAre ia.toList xs) (hxb : StrsAre ib.toList xs) (hok : xs.all PyData.strOk = true) (hu : A.units + 64 < cLine) (h : Q (.bool false) s) : wpAny (model prog w) A (compareOp .NotEq (.ref p) (.ref q)) Q E s := by
  have ra := reads_tuple_at (News.get N hp) hpc hpd (ReadsAll.cons (reads_list_at (News.get N ha) rfl rfl (StrsAre.reads _ hxa)) (ReadsAll.cons (Reads.int i t) ReadsAll.nil))
  have rb := reads_tuple_at (News.get N hq) hqc hqd (ReadsAll.cons (reads_list_at (News.get N hb) rfl rfl (StrsAre.reads _ hxb)) (ReadsAll.cons (Reads.int i u) ReadsAll.nil))
  refine ne_dataH ra rb (shaped_pair hok) (shaped_pair hok) hu ?_
  rw [SeqAt.eqv_refl _ (SeqAt.canLay_of_shaped (shaped_pair hok))]
  exact h
theorem eq_two {p q a b c d : Addr} {op oq : Obj} {np nq na nb nc nd : Nat} {ia ib ic id : Array Value} {xs ys : List Str} {Q : Value → Shared → Prop}
    (N : News h₀ L s.heap news) (hp : (p, op) ∈ news) (hpc : op.cls = .type "tuple") (hpd : op.data = .seq #[.ref a, .ref b] np) (ha : (a, listOf ia na) ∈ news) (hb : (b, listOf ib nb) ∈ news)
    (hq : (q, oq) ∈ news) (hqc : oq.cls = .type "tuple") (hqd : oq.data = .seq #[.ref c, .ref d] nq) (hc : (c, listOf ic nc) ∈ news) (hd : (d, listOf id nd) ∈ news)
    (hxa : StrsAre ia.toList xs) (hxb : StrsAre ib.toList ys) (hxc : StrsAre ic.toList xs) (hxd : StrsAre id.toList ys) (hok : xs.all PyData.strOk = true) (hok' : ys.all PyData.strOk = true) (hu : A.units + 64 < cLine) (h : Q (.bool true) s) :
    wpAny (model prog w) A (compareOp .Eq (.ref p) (.ref q)) Q E s := by
  have ra := reads_tuple_at (News.get N hp) hpc hpd (ReadsAll.cons (reads_list_at (News.get N ha) rfl rfl (StrsAre.reads _ hxa)) (ReadsAll.cons (reads_list_at (News.get N hb) rfl rfl (StrsAre.reads _ hxb)) ReadsAll.nil))
  have rb := reads_tuple_at (News.get N hq) hqc hqd (ReadsAll.cons (reads_list_at (News.get N hc) rfl rfl (StrsAre.reads _ hxc)) (ReadsAll.cons (reads_list_at (News.get N hd) rfl rfl (StrsAre.reads _ hxd)) ReadsAll.nil))
  refine eq_dataH ra rb (shaped_two hok hok') (shaped_two hok hok') hu ?_
  rw [SeqAt.eqv_refl _ (SeqAt.canLay_of_shaped (shaped_two hok hok'))]
  exact h
/-! set(..) and sorted(..) over the ledger -/
theorem set_N {l : Addr} {its : Array Value} {n : Nat} {xs : List Str} {Q : Value → Shared → Prop} (hh : A.handled = none) (F : Fr h₀ L s.heap m) (N : News h₀ L s.heap news) (hl : (l, listOf its n) ∈ news) (hi : StrsAre its.toList xs) (hb : xs.length + 1 < scanBound)
    (h : ∀ a h' tk, SetS prog w h' a (ded xs) → Fr h₀ L h' m → News h₀ L h' news → Q (.ref a) { s with heap := h', toks := tk }) : wpAny (model prog w) A (call (.type "set") [.ref l]) Q E s := by
  refine call_set_strs hh (News.isList N hl) hi hb fun h' tk hS hk => h _ h' tk hS ?_ fun p hp => ?_
  · obtain ⟨oL, _, _, hL, _⟩ := F.ns
    exact ⟨F.ns.at' fun o' e => hk L o' (Heap.lt_size hL) e, fun b o' e => hk b o' (Heap.lt_size (F.keep b o' e)) (F.keep b o' e), F.above⟩
  · exact ⟨hk _ _ (Heap.lt_size (N p hp).1) (N p hp).1, (N p hp).2.1, (N p hp).2.2⟩
theorem sorted_N' {a : Addr} {ys : List Str} {Q : Value → Shared → Prop} (hh : A.handled = none) (hS : SetS prog w s.heap a ys) (h2 : 2 ≤ ys.length) (h64 : ys.length < 64) (F : Fr h₀ L s.heap m) (N : News h₀ L s.heap news)
    (h : ∀ D s' its ss' e, s'.gens = s.gens → s'.os = s.os → Fr h₀ L s'.heap m → News h₀ L s'.heap ((D, listOf its e) :: news) → (∀ p ∈ news, p.1 < D) → StrsAre its.toList ss' → ss'.Perm ys → sortedS ss' = true → Q (.ref D) s') :
    wpAny (model prog w) A (call (.builtin "sorted") [.ref a]) Q E s := by
  refine sorted_set hh hS h2 h64 fun D s' out ss' e k1 k2 k3 k4 k5 k6 k7 k8 k9 => ?_
  obtain ⟨oL, _, _, hL, _⟩ := F.ns
  refine h D s' out ss' e k2 k3 (F.keeps k1) (fun p hp => ?_) (fun p hp => k5 _ _ (N p hp).1) k7 k8 k9
  rcases List.mem_cons.mp hp with rfl | hp
  · refine ⟨k6, Nat.ne_of_gt (k5 _ _ hL), ?_⟩
    cases hq : h₀.get? D with
    | none => rfl
    | some o => have := F.keep _ _ hq; rw [k4] at this; cases this
  · exact ⟨k1 _ _ (N p hp).1, (N p hp).2⟩
/-! a comprehension that keeps what is not in a list of texts -/
theorem areOf_strs : ∀ {vs : List Value} {xs : List Str}, StrsAre vs xs → AreOf .str vs xs
  | _, _, .nil => .nil
  | _, _, .cons _ t h => .cons ⟨t, rfl⟩ (areOf_strs h)
theorem comp_notin {env : Env} {x y z : Str} {px p1 p2 p3 p4 p5 p6 pz : Pos} {scope : Scope} {cl : List (Str × Addr)} {pos : Pos} {kc : Nat} {Q : Value → Shared → Prop} {ax c tp tk : Addr} {its its2 : Array Value} {nx nt n2 : Nat} {v2 : Value} {oc ot : Obj} {xs ys : List Str}
    (hh : A.handled = none) (hclos : closureFor scope env = pure cl) (hcell : ∀ y ∈ scope.names, y.2 ≠ .cell) (hkind : scope.kind = .function)
    (hnames : ∀ y ∈ scope.names, y.2 = .local → scope.names.lookup y.1 = some .local) (hx : scope.names.lookup x = some .local)
    (hxC : ∀ C, (compEnvC scope cl C env).kindOf x = some .local) (hyC : ∀ C, (compEnvC scope cl C env).kindOf y = some .cell) (hkC : ∀ C, (compEnvC scope cl C env).scope.kind = .function) (hdx : (x == ("__debug__" : Str)) = false) (hdy : (y == ("__debug__" : Str)) = false)
    (hcl : cl.lookup y = some c) (F : Fr h₀ L s.heap m) (N : News h₀ L s.heap news) (hz : ∀ (Q' : Value → Shared → Prop), Q' (.ref ax) s → wpAny (model prog w) A (eval (.Name z pz) env) Q' E s) (hc : (c, oc) ∈ news) (hcd : oc.data = .cell (some (.ref tp))) (ht : (tp, ot) ∈ news) (htc : ot.cls = .type "tuple") (htd : ot.data = .seq #[.ref tk, v2] nt) (hk : (tk, listOf its2 n2) ∈ news) (hy2 : StrsAre its2.toList ys)
    (ha : (ax, listOf its nx) ∈ news) (hi : StrsAre its.toList xs) (hsz : xs.length ≤ 1000)
    (h : ∀ D vs nD h' tk', Fr h₀ L h' m → News h₀ L h' ((D, listOf (List.toArray vs) nD) :: news) → StrsAre vs (less xs ys) → Q (.ref D) { s with heap := h', toks := tk' }) :
    wpAny (model prog w) A (eval (.ListComp (.Name x p1) [⟨.Name x px, .Name z pz, [.Compare (.Name x p2) [.NotIn] [.Subscript (.Name y p3) (.Constant (.int 0) kc p4) p5] p6], 0⟩] scope pos) env) Q E s := by
  refine ListComp_DCn (h₀ := h₀) (L := L) (m := m) (K := .str) (pz := fun k => decide (k ∉ ys)) (d := PyData.str) hh hclos hcell hkind hnames hx
    (hz _ ⟨news, ax, its.toList, xs, rfl, by rw [Array.toArray_toList]; exact News.isList N ha, areOf_strs hi, by rw [PySem.sizeLine_eq]; omega, F, N, ?_, ?_, ?_⟩) (by intro _; rfl)
  · rintro C k v s₂ m₂ E' hC hmem ⟨t, rfl⟩ hn hm hk'
    have hc2 : s₂.heap.IsCell c (some (.ref tp)) := ⟨oc, hk' _ _ (News.get N hc), hcd⟩
    simp only [List.forIn_cons, List.forIn_nil, if_true]
    refine wpAny_bind (wpAny_bind (wpAny_isTrue_Compare1 (wpAny_Name (wpAny_loadName_local (hkC C) (hxC C) hn hm ?_) hdx) (by with_unfolding_all rfl)))
    refine Subscript_ (wpAny_Name (wpAny_loadName_cell (hkC C) (hyC C) hcl hc2 (wpAny_Constant_int ?_)) hdy)
    have htp : IsTup s₂.heap tp [Value.ref tk, v2].toArray := ⟨ot, hk' _ _ (News.get N ht), htc, nt, htd⟩
    refine item_tupleT (s := { s₂ with toks := s₂.toks + 1 }) (j := 0) (x := .ref tk) htp (by decide) (by decide) rfl rfl ?_
    have hl2 : s₂.heap.IsList tk its2.toList.toArray := by rw [Array.toArray_toList]; exact ⟨_, hk' _ _ (News.get N hk), rfl, n2, rfl⟩
    refine notin_list_strs (s := { s₂ with toks := s₂.toks + 1 }) hl2 hy2 (wpAny_truthy_bool (wpAny_pure (wpAny_pure ⟨?_, s₂.heap, s₂.toks + 1, rfl, fun _ _ e => e⟩)))
    rw [Bool.eq_iff_iff]
    simp only [Bool.not_eq_true', List.any_eq_false, beq_iff_eq, decide_eq_true_eq]
    exact ⟨fun hq hm => hq k hm rfl, fun hq z hz e => hq (e ▸ hz)⟩
  · rintro C k v s₂ m₂ E' hC hmem ⟨t, rfl⟩ hp hn hm hk'
    exact wpAny_Name (wpAny_loadName_local (hkC C) (hxC C) hn hm ⟨Carried.str _ _, s₂.heap, s₂.toks, by cases s₂; rfl, fun _ _ e => e⟩) hdx
  · intro D vs h' tk' F' N' hD0 hl hnp hcar
    obtain ⟨⟨nD, hD⟩, hoff⟩ := hnp
    refine h D vs nD h' tk' F' (fun p hp => ?_) (StrsAre.ofCarried hcar)
    rcases List.mem_cons.mp hp with rfl | hp
    · exact ⟨hD, NewPlain.ne_locals (news := news) ⟨⟨nD, hD⟩, hoff⟩ F', hD0⟩
    · exact N' p hp
end
/-! sorted and each once: rising -/
theorem rising_from : ∀ (l : List Str) (p : Str), risingS p l = true → (p :: l).Nodup → Rising (p :: l)
  | [], p, _, _ => List.pairwise_cons.mpr ⟨fun _ h => (nomatch h), .nil⟩
  | x :: r, p, h, hn => by
    have h' : (!ltCps x.cps.toList p.cps.toList && risingS x r) = true := h
    obtain ⟨h1, h2⟩ := Bool.and_eq_true_iff.mp h'
    have hr := rising_from r x h2 (List.nodup_cons.mp hn).2
    have hlt : SLt p x := by
      by_cases hc : SLt p x
      · exact hc
      · have h3 : ¬ SLt x p := by
          intro hq
          rw [ltCps_eq, decide_eq_true (show x.cps.toList < p.cps.toList from hq)] at h1
          cases h1
        exact absurd (SLt.tri hc h3) (fun e => (List.nodup_cons.mp hn).1 (e ▸ .head _))
    refine List.pairwise_cons.mpr ⟨fun y hy => ?_, hr⟩
    rcases List.mem_cons.mp hy with rfl | hy
    · exact hlt
    · exact hlt.trans (List.rel_of_pairwise_cons hr hy)
theorem rising_of {l : List Str} (h : sortedS l = true) (hn : l.Nodup) : Rising l := by
  cases l with
  | nil => exact .nil
  | cons x r => exact rising_from r x h hn

end Mine
end

-- N3
section
namespace Mine

theorem lines_N3_0 : True := by
  k_with_none
  trivial
def TK (turn : Int) (l : List Nat) : List Str := (lexT (some []) (escT turn l)).1.map tokS
def LN (turn : Int) (l : List Nat) : Int := 1 + ((lexT (some []) (escT turn l)).2 : Int)
theorem plain_TK {turn : Int} (h0 : 0 ≤ turn) (h1 : turn < 5) {l : List Nat} (hl : ∀ c ∈ l, c ∈ sgns) : ((plainLn (plainW turn l)).flatMap lineW).map mkS = TK turn l := by
  unfold TK
  rw [map_tokS (lexT_ne _ _), lex_plainW h0 h1 hl]
theorem plain_LN {turn : Int} (h0 : 0 ≤ turn) (h1 : turn < 5) {l : List Nat} (hl : ∀ c ∈ l, c ∈ sgns) : (((plainLn (plainW turn l)).length : Int) + (if 35 ∈ (plainLn (plainW turn l)).getLastD [] then 1 else 0)) = LN turn l := by
  unfold LN
  rw [lex_plainW h0 h1 hl]
  have hne := splL_ne 10 (plainW turn l)
  have hpos : 0 < (plainLn (plainW turn l)).length := List.length_pos_iff.mpr hne
  split <;> simp <;> omega
theorem lexT_sub : ∀ (r : List Nat) (st : Option (List Nat)) (tok : List Nat), tok ∈ (lexT st r).1 → ∀ c ∈ tok, c ∈ r ∨ c ∈ st.getD []
  | [], none, tok, h => by simp [lexT] at h
  | [], some cur, tok, h => by
    intro c hc
    by_cases hq : cur = []
    · simp [lexT, hq] at h
    · simp [lexT, hq] at h; subst h; exact .inr hc
  | d :: r, none, tok, h => by
    rw [lexT] at h
    intro c hc
    split at h
    · rcases lexT_sub r _ tok h c hc with h | h
      · exact .inl (.tail _ h)
      · simp at h
    · rcases lexT_sub r _ tok h c hc with h | h
      · exact .inl (.tail _ h)
      · simp at h
  | d :: r, some cur, tok, h => by
    intro c hc
    have one : tok ∈ (if cur = [] then [] else [cur]) → c ∈ d :: r ∨ c ∈ (some cur).getD [] := fun hm => by
      split at hm
      · cases hm
      · rw [List.mem_singleton.mp hm] at hc; exact .inr hc
    have rest : ∀ st, st.getD [] = [] → tok ∈ (lexT st r).1 → c ∈ d :: r ∨ c ∈ (some cur).getD [] := fun st hs hm => by
      rcases lexT_sub r st tok hm c hc with h | h
      · exact .inl (.tail _ h)
      · rw [hs] at h; cases h
    rw [lexT] at h
    by_cases h1 : d = 10
    · rw [if_pos h1] at h
      rcases List.mem_append.mp h with h | h
      · exact one h
      · exact rest _ rfl h
    rw [if_neg h1] at h
    by_cases h2 : isWsC d = true
    · rw [if_pos h2] at h
      rcases List.mem_append.mp h with h | h
      · exact one h
      · exact rest _ rfl h
    rw [if_neg h2] at h
    by_cases h3 : d = 35
    · rw [if_pos h3] at h
      rcases List.mem_append.mp h with h | h
      · exact one h
      · exact rest none rfl h
    rw [if_neg h3] at h
    by_cases h4 : isWordC d = true
    · rw [if_pos h4] at h
      rcases lexT_sub r _ tok h c hc with h | h
      · exact .inl (.tail _ h)
      · rcases List.mem_append.mp h with h | h
        · exact .inr h
        · rw [List.mem_singleton.mp h]; exact .inl (.head _)
    rw [if_neg h4] at h
    rcases List.mem_append.mp h with h | h
    · exact one h
    · rcases List.mem_cons.mp h with e | h
      · rw [e, List.mem_singleton] at hc; rw [hc]; exact .inl (.head _)
      · exact rest _ rfl h
theorem good_lt {c : Nat} (hc : goodC c = true) : c < 128 := by
  simp only [goodC, isWsC, isPunC, isWordC, Bool.or_eq_true, Bool.and_eq_true, decide_eq_true_eq, beq_iff_eq] at hc
  omega
theorem TK_ok {turn : Int} (h0 : 0 ≤ turn) (h1 : turn < 5) {l : List Nat} (hl : ∀ c ∈ l, c ∈ sgns) : (TK turn l).all PyData.strOk = true := by
  rw [List.all_eq_true]
  intro y hy
  obtain ⟨tok, ht, rfl⟩ := List.mem_map.mp hy
  have hc : ∀ c ∈ tok, c < 128 := fun c hc => by
    rcases lexT_sub _ _ tok ht c hc with h | h
    · exact good_lt (esc_good h0 h1 hl c h)
    · cases h
  have hne : tok ≠ [] := fun e => lexT_ne _ _ (e ▸ ht)
  rw [tokS_ne hne]
  unfold PyData.strOk
  rw [← Array.all_toList, List.all_eq_true]
  intro c hc'
  exact decide_eq_true (Nat.lt_of_lt_of_le (hc c hc') (by decide))
theorem esc55 (ns : List Int) {turn : Int} (h0 : 0 ≤ turn) (h1 : turn < 5) : (escT turn (textL ns)).length ≤ 55 := by
  obtain ⟨n, rfl⟩ := Int.eq_ofNat_of_zero_le h0
  have hn : n < 5 := by omega
  have hp : ∀ k : Fin 5, (∀ p ∈ pcs, (p.flatMap (escC (k.1 : Int))).length ≤ 5) ∧ ([97, 60].flatMap (escC (k.1 : Int))).length ≤ 5 := by decide +kernel
  obtain ⟨hp1, hp2⟩ := hp ⟨n, hn⟩
  rw [escT_flat]
  have hfl : ∀ ks : List Int, ((ks.map pieceL).flatten.flatMap (escC (n : Int))).length ≤ 5 * ks.length := by
    intro ks
    induction ks with
    | nil => simp
    | cons k ks ih =>
      rw [List.map_cons, List.flatten_cons, List.flatMap_append, List.length_append, List.length_cons]
      have : ((pieceL k).flatMap (escC (n : Int))).length ≤ 5 := by
        rcases pieceL_cases k with h | h
        · exact hp1 _ h
        · rw [h]; simp
      omega
  have h3 := hfl (ns.take 10)
  have h4 : (ns.take 10).length ≤ 10 := by rw [List.length_take]; omega
  have e : (textL ns).flatMap (escC (n : Int)) = [97, 60].flatMap (escC (n : Int)) ++ ((ns.take 10).map pieceL).flatten.flatMap (escC (n : Int)) := by
    unfold textL
    rw [← List.flatMap_append]; rfl
  have hp2' : ([97, 60].flatMap (escC (n : Int))).length ≤ 5 := hp2
  show ((textL ns).flatMap (escC (n : Int))).length ≤ 55
  rw [e, List.length_append]
  omega
theorem TK_len {turn : Int} {l : List Nat} (h : (escT turn l).length ≤ 55) : (TK turn l).length ≤ 55 := by
  unfold TK
  rw [List.length_map]
  exact Nat.le_trans (lexT_len0 _) h
theorem TK_two (ns : List Int) {turn : Int} (h0 : 0 ≤ turn) (h1 : turn < 5) : 2 ≤ (ded (TK turn (textL ns))).length := by
  obtain ⟨n, rfl⟩ := Int.eq_ofNat_of_zero_le h0
  have hn : n < 5 := by omega
  have hp : ∀ k : Fin 5, ∃ c r, (c = 38 ∨ c = 60) ∧ [97, 60].flatMap (escC (k.1 : Int)) = 97 :: c :: r := by
    intro k
    match k with
    | ⟨0, _⟩ => exact ⟨38, [108, 116, 59], .inl rfl, by show List.flatMap (escC ((0 : Nat) : Int)) [97, 60] = _; decide +kernel⟩
    | ⟨1, _⟩ => exact ⟨38, [108, 116, 59], .inl rfl, by show List.flatMap (escC ((1 : Nat) : Int)) [97, 60] = _; decide +kernel⟩
    | ⟨2, _⟩ => exact ⟨60, [], .inr rfl, by show List.flatMap (escC ((2 : Nat) : Int)) [97, 60] = _; decide +kernel⟩
    | ⟨3, _⟩ => exact ⟨38, [108, 116, 59], .inl rfl, by show List.flatMap (escC ((3 : Nat) : Int)) [97, 60] = _; decide +kernel⟩
    | ⟨4, _⟩ => exact ⟨38, [108, 116, 59], .inl rfl, by show List.flatMap (escC ((4 : Nat) : Int)) [97, 60] = _; decide +kernel⟩
  obtain ⟨c, r, hc, hr⟩ := hp ⟨n, hn⟩
  have e : escT (n : Int) (textL ns) = 97 :: c :: (r ++ ((ns.take 10).map pieceL).flatten.flatMap (escC (n : Int))) := by
    rw [escT_flat]
    have : (textL ns).flatMap (escC (n : Int)) = [97, 60].flatMap (escC (n : Int)) ++ ((ns.take 10).map pieceL).flatten.flatMap (escC (n : Int)) := by
      unfold textL
      rw [← List.flatMap_append]; rfl
    rw [this]
    have hr' : [97, 60].flatMap (escC (n : Int)) = 97 :: c :: r := hr
    rw [hr']; rfl
  have hm : tokS [97] ∈ TK (n : Int) (textL ns) ∧ tokS [c] ∈ TK (n : Int) (textL ns) := by
    unfold TK
    show tokS [97] ∈ (lexT (some []) (escT (n : Int) (textL ns))).1.map tokS ∧ _ ∈ (lexT (some []) (escT (n : Int) (textL ns))).1.map tokS
    rw [e]
    generalize r ++ ((ns.take 10).map pieceL).flatten.flatMap (escC (n : Int)) = q
    rcases hc with rfl | rfl
    · have e2 : lexT (some []) (97 :: 38 :: q) = ([97] :: [38] :: (lexT (some []) q).1, (lexT (some []) q).2) := by
        simp [lexT, isWsC, isWordC]
      rw [e2]; simp
    · have e2 : lexT (some []) (97 :: 60 :: q) = ([97] :: [60] :: (lexT (some []) q).1, (lexT (some []) q).2) := by
        simp [lexT, isWsC, isWordC]
      rw [e2]; simp
  have hne : tokS [97] ≠ tokS [c] := by
    rcases hc with rfl | rfl <;> decide
  have h3 := (ded_mem _ _).mpr hm.1
  have h4 := (ded_mem _ _).mpr hm.2
  show 2 ≤ (ded (TK (n : Int) (textL ns))).length
  generalize ded (TK (n : Int) (textL ns)) = d at h3 h4
  match d, h3, h4 with
  | [], h3, _ => cases h3
  | [a], h3, h4 => exact absurd ((List.mem_singleton.mp h3).trans (List.mem_singleton.mp h4).symm) hne
  | _ :: _ :: _, _, _ => simp
theorem ctr_mono {w : World} {mean : ExcName → Option Value} {mg mb : Str → Option Value} {f : Addr} {args : List Value} {cost : Nat} {news : List (Addr × Obj)} {R R' : Heap → Addr → (Str → Option Value) → Heap → Value → Prop}
    (C : Ctr w mean mg mb f args cost news R) (hR : ∀ h₀ L m h' v, R h₀ L m h' v → R' h₀ L m h' v) : Ctr w mean mg mb f args cost news R' :=
  fun dp un gd cn cs a ccd cl outer A₀ base h₀ L m s Q E B F X N T hk hd hu ret => C dp un gd cn cs a ccd cl outer A₀ base h₀ L m s Q E B F X N T hk hd hu fun v h' tk' F' r => ret v h' tk' F' (hR _ _ _ _ _ r)
abbrev RT2 (turn : Int) (l : List Nat) (news : List (Addr × Obj)) : Heap → Addr → (Str → Option Value) → Heap → Value → Prop := fun h₀ L _ h' v => ∃ tp tk n its ti, v = .ref tp ∧ StrsAre its (TK turn l) ∧
       News h₀ L h' ((tp, ({ cls := .type "tuple", data := .seq #[.ref tk, .int (LN turn l) ti] } : Obj)) :: (tk, listOf its.toArray n) :: news) ∧ (∀ p ∈ news, @LT.lt Nat instLTNat p.1 tk) ∧ @LT.lt Nat instLTNat tk tp
theorem lexed_T (w : World) (mean : ExcName → Option Value) (mg mb : Str → Option Value) (news : List (Addr × Obj)) (turn : Int) (h0 : 0 ≤ turn) (h1 : turn < 5) (l : List Nat) (hl : ∀ c ∈ l, c ∈ sgns) (hx : l.length ≤ 22) (t : Nat) : Ctr w mean mg mb 794 [.str (mkS (escT turn l)) t] 12 news (RT2 turn l news) :=
  ctr_mono (lexed_c w mean mg mb news (mkS (escT turn l)) t (esc_good h0 h1 hl) (by rw [mkS_len]; exact esc_len h0 h1 hl hx)) fun _ _ _ _ _ r => r
theorem plain_T (w : World) (mean : ExcName → Option Value) (mg mb : Str → Option Value) (news : List (Addr × Obj)) (turn : Int) (h0 : 0 ≤ turn) (h1 : turn < 5) (l : List Nat) (hl : ∀ c ∈ l, c ∈ sgns) (hx : l.length ≤ 22) (t t' : Nat) : Ctr w mean mg mb 799 [.int turn t', .str (mkS l) t] 8 news (RT2 turn l news) := by
  refine ctr_mono (plain_c w mean mg mb news turn h0 h1 l t t' hx) fun h₀ L m h' v r => ?_
  rw [plain_TK h0 h1 hl, plain_LN h0 h1 hl] at r
  exact r

end Mine
end

-- N1
section
namespace Mine

theorem lines_N1_0 : True := by
  k_with_none
  trivial
theorem perm_ded_mem {xs T : List Str} (P : xs.Perm (ded T)) : ∀ y, y ∈ xs ↔ y ∈ T := fun y => (P.mem_iff).trans (ded_mem T y)
theorem less_congr {xs ys ys' : List Str} (h : ∀ y, y ∈ ys ↔ y ∈ ys') : less xs ys = less xs ys' := by
  unfold less
  apply List.filter_congr
  intro a _
  simp [h a]
theorem ok_less {xs T T2 : List Str} (hm : ∀ y, y ∈ xs ↔ y ∈ T) (h : T.all PyData.strOk = true) : (less xs T2).all PyData.strOk = true := by
  rw [List.all_eq_true] at h ⊢
  intro y hy
  exact h y ((hm y).mp (List.mem_filter.mp hy).1)
theorem diff_N (w : World) (mean : ExcName → Option Value) (mg mb : Str → Option Value) {ex ac e1 e2 : Nat} {its1 its2 : Array Value} {xs ys T1 T2 : List Str} {news : List (Addr × Obj)} {dp un : Nat} {gd : Option (List Code)} {cn : Str} {cs : Scope} {a : Addr} {ccd : Value} {cl : List (Str × Addr)} {h₀ : Heap} {L : Addr} {m : Str → Option Value} {s : Shared} {Q E : Value → Shared → Prop}
    (N : News h₀ L s.heap news) (hx : (ex, listOf its1 e1) ∈ news) (hy : (ac, listOf its2 e2) ∈ news) (S1 : StrsAre its1.toList xs) (S2 : StrsAre its2.toList ys) (l1 : xs.length ≤ 1000) (l2 : ys.length ≤ 1000) (r1 : Rising xs) (r2 : Rising ys) (m1 : ∀ y, y ∈ xs ↔ y ∈ T1) (m2 : ∀ y, y ∈ ys ↔ y ∈ T2)
    (F : Fr h₀ L s.heap m) (X : (KF w.params).In h₀) (T : Top QV LO mean mg mb h₀) (hk : cs.kind = .function) (hdp : dp + 8 < recursionLimit) (hun : un + 64 < cLine)
    (hret : ∀ D mi ue uits ku mits km n h' tk', StrsAre mits.toList (less xs T2) → StrsAre uits.toList (less ys T1) → Fr h₀ L h' m → News h₀ L h' ((D, { cls := .type "tuple", data := .seq #[.ref mi, .ref ue] n }) :: (ue, listOf uits ku) :: (mi, listOf mits km) :: news) → Q (.ref D) { s with heap := h', toks := tk' }) :
    wpAny (model PySem.Challenge.rw_of0105_01.row.prog w) (ktrTop dp un gd cn cs L a ccd cl []) (call (.ref 775) [.ref ex, .ref ac]) Q E s := by
  have N2 : News h₀ L s.heap ((ex, listOf its1.toList.toArray e1) :: (ac, listOf its2.toList.toArray e2) :: news) := by
    rw [Array.toArray_toList, Array.toArray_toList]
    intro p hp
    rcases List.mem_cons.mp hp with rfl | hp
    · exact N _ hx
    · rcases List.mem_cons.mp hp with rfl | hp
      · exact N _ hy
      · exact N p hp
  refine diff_c w mean mg mb news ex ac e1 e2 _ _ xs ys S1 S2 l1 l2 r1 r2 dp un gd cn cs a ccd cl h₀ L m s Q E F X N2 T hk hdp hun ?_
  rintro v h' tk' D mi ue uits ku mits km n rfl hm hu F' N'
  rw [less_congr m2] at hm
  rw [less_congr m1] at hu
  refine hret D mi ue uits ku mits km n h' tk' hm hu F' fun p hp => N' p ?_
  simp only [List.mem_cons] at hp ⊢
  rcases hp with h | h | h | h
  · exact .inl h
  · exact .inr (.inl h)
  · exact .inr (.inr (.inl h))
  · exact .inr (.inr (.inr (.inr (.inr h))))
theorem lines_N1_1 : True := by
  k_with "call ref" => (k_here; (try dsimp only); (with_reducible show wpAny _ _ (call (Value.ref 775) _ _) _ _ _); k_dflt (refine' diff_N _ _ _ _ (by k_asm) (by k_mem) (by k_mem) (by assumption) (by assumption) (by omega) (by omega) (by assumption) (by assumption) (by assumption) (by assumption) (by k_asm) (by k_asm) (by k_asm) (by exact rfl) (by exact Nat.le_of_ble_eq_true rfl) (by exact Nat.le_of_ble_eq_true rfl) ?_; k_whole); intro _ _ _ _ _ _ _ _ _ _ _ _ _ _)
  k_with "compareOp Eq ref ref" => (k_here; k_dflt (refine' eq_two (by k_asm) (by k_mem) (by exact rfl) (by exact rfl) (by k_mem) (by k_mem) (by k_mem) (by exact rfl) (by exact rfl) (by k_mem) (by k_mem) (by assumption) (by assumption) (by assumption) (by assumption) (by exact ok_less (by assumption) (by assumption)) (by exact ok_less (by assumption) (by assumption)) (by ke_room) ?_; k_whole))
  k_with "call ref" => (k_here; (try dsimp only); (with_reducible show wpAny _ _ (call (Value.ref 787) _ _) _ _ _); k_dflt (refine' ctr_use2 (by k_asm) (by k_asm) (by k_asm) (by first | k_asm | exact news_tail (by k_asm)) (by k_asm) (by first | exact rfl | assumption) (by ktr_room) (by ktr_units) (escaped_c _ _ _ _ _ _ _ _ _ (by assumption)) ?_); rintro _ _ _ _ ⟨⟨_, rfl⟩, N9⟩; (try simp only [List.cons_append, List.nil_append] at N9); (try dsimp only); (try k_fold))
  k_with "call ref" => (k_here; (try dsimp only); (with_reducible show wpAny _ _ (call (Value.ref 794) _ _) _ _ _); k_dflt (refine' ctr_use2 (by k_asm) (by k_asm) (by k_asm) (by first | k_asm | exact news_tail (by k_asm)) (by k_asm) (by first | exact rfl | assumption) (by ktr_room) (by ktr_units) (lexed_T _ _ _ _ _ _ (by assumption) (by assumption) _ (by assumption) (by assumption) _) ?_); rintro _ _ _ _ ⟨_, _, _, _, _, rfl, _, N9, lt9, _⟩; (try simp only [List.cons_append, List.nil_append] at N9 lt9); (k_lt lt9); (try dsimp only); (try k_fold))
  k_with "call ref" => (k_here; (try dsimp only); (with_reducible show wpAny _ _ (call (Value.ref 799) _ _) _ _ _); k_dflt (refine' ctr_use2 (by k_asm) (by k_asm) (by k_asm) (by first | k_asm | exact news_tail (by k_asm)) (by k_asm) (by first | exact rfl | assumption) (by ktr_room) (by ktr_units) (plain_T _ _ _ _ _ _ (by assumption) (by assumption) _ (by assumption) (by assumption) _ _) ?_); rintro _ _ _ _ ⟨_, _, _, _, _, rfl, _, N9, lt9, _⟩; (try simp only [List.cons_append, List.nil_append] at N9 lt9); (k_lt lt9); (try dsimp only); (try k_fold))
  k_with "compareOp NotEq ref ref" => (k_here; k_dflt (refine' ne_pair (by k_asm) (by k_mem) (by exact rfl) (by exact rfl) (by k_mem) (by k_mem) (by exact rfl) (by exact rfl) (by k_mem) (by assumption) (by assumption) (by assumption) (by ke_room) ?_; k_whole))
  k_with "call type:set cons nil" => (k_here; k_dflt (refine' set_N rfl (by k_asm) (by k_asm) (by k_mem) (by assumption) (by unfold scanBound; omega) ?_; k_whole); intro _ _ _ _ _ _)
  k_with "call builtin:sorted" => (k_here; k_dflt (refine' sorted_N' rfl (by assumption) (by assumption) (by assumption) (by k_asm) (by k_asm) ?_; k_whole); intro _ _ _ _ _ _ _ _ _ l1 _ P' R'; have c' := List.Perm.length_eq P'; have q' := rising_of R' ((List.Perm.nodup_iff P').mpr (ded_nodup _)); have z' := perm_ded_mem P'; (try k_lt l1))
  k_with "eval ListComp" => (k_here; k_dflt (refine' comp_notin rfl (by with_unfolding_all rfl) (by decide) (by exact rfl) (by decide) (by exact rfl) (by intro _; rfl) (by intro _; rfl) (by intro _; rfl) (by decide) (by decide) (by exact rfl) (by k_asm) (by k_asm) (by intro _ hq'; exact nameX_L (by k_asm) rfl hq') (by k_mem) (by assumption) (by k_mem) (by exact rfl) (by exact rfl) (by k_mem) (by assumption) (by k_mem) (by assumption) (by omega) ?_; k_whole); intro _ _ _ _ _ _ _ _)
  trivial
abbrev lwM (m0 : Str → Option Value) (tx tot fi se : Value) : Str → Option Value := fun y =>
  if y = Str.ofString "second" then some se else if y = Str.ofString "first" then some fi else if y = Str.ofString "total" then some tot else if y = Str.ofString "text" then some tx else m0 y
set_option maxRecDepth 100000 in
set_option maxHeartbeats 8000000 in
theorem law_tail (w : World) (mean : ExcName → Option Value) (mg mb : Str → Option Value) (b : List Stmt) (sc : Scope) (hb : BodyAt (KF w.params) 804 4 b sc) (l : List Nat) (hsg : ∀ c ∈ l, c ∈ sgns) (htl : l.length ≤ 22) (fst snd : Int) (f0 : 0 ≤ fst) (f1 : fst < 5) (g0 : 0 ≤ snd) (g1 : snd < 5)
   (h55a : (TK fst l).length ≤ 55) (h55b : (TK snd l).length ≤ 55) (h2a : 2 ≤ (ded (TK fst l)).length) (h2b : 2 ≤ (ded (TK snd l)).length)
   (t tf ts : Nat) (tot : Value) (m0 : Str → Option Value) (o1 o2 : Obj) (ho1 : o1.data = .cell none) (ho2 : o2.data = .cell none)
   {cn : Str} {a : Addr} {ccd : Value} {base h₀ : Heap} {L : Addr} {s : Shared} {Q : Flow → Shared → Prop}
   (B : Below callerA base [] h₀) (F : Fr h₀ L s.heap (lwM m0 (.str (mkS l) t) tot (.int fst tf) (.int snd ts))) (X : (KF w.params).In h₀) (N : News h₀ L s.heap [(L + 1 + 1, o2), (L + 1, o1)]) (T : Top QV LO mean mg mb h₀)
   (hret : ∀ s' m', Fr h₀ L s'.heap m' → s'.gens = s.gens → s'.os = s.os → Q (.ret (.bool true)) s') :
    wpAny (model PySem.Challenge.rw_of0105_01.row.prog w) (callerA.deeper (envOfC cn sc L a ccd)) (execs b (envOfC cn sc L a ccd)) Q (fun _ _ => False) s := by
  have KF : KF w.params = KF w.params := rfl
  revert KF
  k_fill
  intro _
  obtain ⟨e1, e2⟩ := hb.uniq (by k_is)
  subst e1 e2
  dsimp only [List.drop]
  have hok1 := TK_ok f0 f1 hsg
  have hok2 := TK_ok g0 g1 hsg
  have hd1 : (ded (TK fst l)).length < 64 := Nat.lt_of_le_of_lt (ded_len _) (by omega)
  have hd2 : (ded (TK snd l)).length < 64 := Nat.lt_of_le_of_lt (ded_len _) (by omega)
  k_steps
  exact hret _ _ (by k_asm) (Eq.trans (by assumption) (by assumption)) (Eq.trans (by assumption) (by assumption))

end Mine
end

-- N4
section
namespace Mine

theorem lines_N4_0 : True := by
  k_with_none
  trivial
set_option maxRecDepth 100000 in
set_option maxHeartbeats 8000000 in
theorem top_try : PySem.Challenge.rw_of0105_01.Holds := hd (by rfl) (by rfl) (by rfl) (by
  k_fill
  intro w s₀ s₁ mg mb G Y fa o pm cd doc dV kV ho hd hcd hD hmg hg args vals as hpre hlay hrd hwl hlo
  have KX := kIn_of Y
  have XF := (Ground.X G).1
  have VF := (Ground.X G).2
  refine Ground.open G ?_
  intro T0 TB D0 TE TW
  try (refine guard_noD D0 (by decide +kernel) ?_; clear D0)
  obtain ⟨_, _, M⟩ := bmod_of_top T0
  have TA := at_of_top T0
  try (obtain ⟨_, _, he, B0⟩ := based_of_top T0 rfl hmg ho hd; have he' : cd = _ := he; subst he'; clear he)
  clear hmg
  wrow_args hpre hlay hrd hwl hlo
  all_goals (
    first | refine callC_kw (enter_call ?_) | refine enter_call ?_
    w_top on
    try refine codeAny_mono ?_ (fun _ _ g => GoodW.toG g)
    have K0 := below_caller (Top.heap T0)
    w_call any ho hd hcd hD T0 F0
    clear hd TA
    k_drop)
  (all_goals try k_fold)
  dsimp only
  (rename (KF _).In _ => X)
  (rename Top _ _ _ _ _ _ => T)
  (rename Below _ _ _ _ => B)
  (rename IntsAre _ _ => hI)
  (rename Heap.IsList _ _ _ => hL)
  (rename Fr _ _ _ _ => F)
  (rename News _ _ _ _ => N)
  (rename ¬ (_ < _) => hlen)
  dsimp only at F N
  repeat' (first | (k_unfold; (try dsimp only)) | ((fail_if_success (with_reducible show wpAny _ _ (call (Value.ref 780) _ _) _ _ _)); (first | walk1 | (dsimp only; walk1))))
  refine text_c _ _ _ _ _ _ _ _ B (by k_asm) X (by k_asm) T rfl hL hI (by omega) (by ktr_room) (by ktr_units) ?_
  intro h1 tk1 t1 F1 N1
  clear F N
  repeat' (first | (k_unfold; (try dsimp only)) | ((fail_if_success (with_reducible show wpAny _ _ (execs (Stmt.Assign [Expr.Name (Str.ofString "one") _] _ _ :: _) _) _ _ _)); (first | walk1 | (dsimp only; walk1))))
  refine wpAny_noRaise ?_
  (rename List Int => ns)
  have f0 : 0 ≤ ((List.map (fun k' => Int.fmod k' 20) (List.take 10 ns)).sum).fmod 5 := Int.fmod_nonneg_of_pos _ (by decide)
  (rename Fr _ _ _ _ => F9)
  (rename News _ _ _ _ => N9)
  have N8 := news_tail (news_tail N9)
  refine' law_tail _ _ _ _ _ _ ?hb (textL ns) (text_sgns ns) (textL_len ns) _ _ ?a1 ?a2 ?a3 ?a4 ?a5 ?a6 ?a7 ?a8 _ _ _ _ _ _ _ ?o1 ?o2 B ?fr X N8 T ?ret
  case hb => exact ⟨_, _, _, _, _, _, _, _, _, _, _, _, _, _, by k_is, rfl⟩
  case fr => exact F9
  case a1 => exact Int.fmod_nonneg_of_pos _ (by decide)
  case a2 => exact Int.fmod_lt_of_pos _ (by decide)
  case a3 => exact Int.fmod_nonneg_of_pos _ (by decide)
  case a4 => exact Int.fmod_lt_of_pos _ (by decide)
  case a5 => exact TK_len (esc55 ns (Int.fmod_nonneg_of_pos _ (by decide)) (Int.fmod_lt_of_pos _ (by decide)))
  case a6 => exact TK_len (esc55 ns (Int.fmod_nonneg_of_pos _ (by decide)) (Int.fmod_lt_of_pos _ (by decide)))
  case a7 => exact TK_two ns (Int.fmod_nonneg_of_pos _ (by decide)) (Int.fmod_lt_of_pos _ (by decide))
  case a8 => exact TK_two ns (Int.fmod_nonneg_of_pos _ (by decide)) (Int.fmod_lt_of_pos _ (by decide))
  case o1 => assumption
  case o2 => assumption
  case ret =>
    intro s' m' F' e1 e2
    refine goodW_bool F' (e1.trans (by assumption)) (fun cls => rfl) ?_ e2
    first | rfl | decide | (kernel_rfl))

end Mine
end

set_option maxRecDepth 100000 in
set_option maxHeartbeats 8000000 in
theorem PySem.Challenge.cw_of0105_01_holds : PySem.Challenge.rw_of0105_01.Holds :=
  Mine.top_try
