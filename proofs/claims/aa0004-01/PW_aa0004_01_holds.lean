import PyProof.Rows.All
import Wide.All
import OpenK.AllK
import Wide.FinOn
import KE.KSuperObj
import KE.KNest
import PySem.Challenge.RW_aa0004_01
set_option tactic.hygienic true
open PySem PySem.W PySem.Calls PyProof.Rows
set_option Elab.async false
set_option maxRecDepth 100000
set_option maxHeartbeats 8000000
namespace Mine
noncomputable def fParts : Option Stmt → Arguments × List Stmt × Scope
  | some (.FunctionDef _ a b _ _ _ sc _ _ _) => (a, b, sc)
  | _ => default
noncomputable def fo (n : Str) (pm dV kV : Value) (c : Addr) (i : Nat) (a : Arguments) (b : List Stmt) (sc : Scope) (_ : fParts PySem.Challenge.rw_aa0004_01.row.prog.main.body[i]? = (a, b, sc)) : Obj :=
  { cls := .type "function", data := .func { name := n, qualname := n, params := a, body := .stmts b, scope := sc, globals := 3, closure := [], defaults := dV, kwdefaults := kV, pyModule := pm, code := .ref c } }
noncomputable def co (n : Str) (t line argc pos kwo : Nat) (c0 c1 : Addr) (v1 v2 : Value) (u : Nat) : Obj :=
  { cls := .type "code", data := .fields #[.str n t, .str n (t + 1), .str (Str.ofString "/claim/cut.py") (t + 2), .int line 0, .int argc 0, .int pos 0, .int kwo 0, .int (3 : Nat) 0, .ref c0, .bool true, .int (181 : Nat) 0, .ref (c0 + 1), .none, v1, v2, .ref c1, .int u 0, .int line 0, .str (Str.ofString "/claim/cut.py") (u + 1)] }
noncomputable def en (P : Params) (x : Str) (t : Nat) (v : Value) : DictEntry := { hash := PyData.keyHash P x, key := .str x t, val := v }
noncomputable def ldr (P : Params) : Value := match (boot_o_3 P).data with
  | .dict es _ => (match es[3]? with | some e => e.val | none => .none)
  | _ => .none
noncomputable def KA (P : Params) : Frag :=
    (nat_lit 2, { cls := .none, data := .dict #[] }) ::
    (nat_lit 3, { cls := .type "dict", data := .dict #[en P (Str.ofString "__name__") 165 (.str (Str.ofString "law_aa0004_01") 307),
      en P (Str.ofString "__doc__") 166 .none,
      en P (Str.ofString "__package__") 167 .none,
      en P (Str.ofString "__loader__") 168 (ldr P),
      en P (Str.ofString "__spec__") 169 .none,
      en P (Str.ofString "__annotations__") 170 (.ref 6),
      en P (Str.ofString "__builtins__") 171 (.ref 4),
      en P (Str.ofString "__file__") 173 (.str (Str.ofString "/claim/cut.py") 172),
      en P (Str.ofString "__cached__") 174 .none,
      en P (Str.ofString "_wall") 193 (.ref 21),
      en P (Str.ofString "heappush") 203 (.ref 28),
      en P (Str.ofString "heappop") 212 (.ref 35),
      en P (Str.ofString "_siftdown") 224 (.ref 42),
      en P (Str.ofString "_siftup") 237 (.ref 49),
      en P (Str.ofString "_buffer") 247 (.ref 56),
      en P (Str.ofString "_truth") 255 (.ref 63),
      en P (Str.ofString "_B64") 257 (.bytes #[65, 66, 67, 68, 69, 70, 71, 72, 73, 74, 75, 76, 77, 78, 79, 80, 81, 82, 83, 84, 85, 86, 87, 88, 89, 90, 97, 98, 99, 100, 101, 102, 103, 104, 105, 106, 107, 108, 109, 110, 111, 112, 113, 114, 115, 116, 117, 118, 119, 120, 121, 122, 48, 49, 50, 51, 52, 53, 54, 55, 56, 57, 43, 47] 256),
      en P (Str.ofString "b2a_base64") 271 (.ref 71),
      en P (Str.ofString "b64encode") 282 (.ref 79),
      en P (Str.ofString "cmp_to_key") 293 (.ref 86),
      en P (Str.ofString "_initial_missing") 294 (.ref 87),
      en P (Str.ofString "reduce") 306 (.ref 95),
      en P (Str.ofString "_law_row") 314 (.ref 100),
      en P (Str.ofString "_law_compare") 324 (.ref 107),
      en P (Str.ofString "_law_orders") 330 (.ref 112),
      en P (Str.ofString "_law_off") 336 (.ref 117),
      en P (Str.ofString "_law_laid") 343 (.ref 124),
      en P (Str.ofString "_law_sixes") 354 (.ref 131),
      en P (Str.ofString "law") 360 (.ref 136)] 29 }) ::
    (nat_lit 20, co (Str.ofString "_wall") 187 1 1 0 0 15 19 (.ref 17) (.ref 18) 191) ::
    (nat_lit 21, fo (Str.ofString "_wall") (.str (Str.ofString "__main__") 164) .none .none 20 0 _ _ _ rfl) ::
    (nat_lit 27, co (Str.ofString "heappush") 196 5 2 0 0 22 26 (.ref 24) (.ref 25) 201) ::
    (nat_lit 28, fo (Str.ofString "heappush") (.str (Str.ofString "cpy313.heapq") 194) .none .none 27 2 _ _ _ rfl) ::
    (nat_lit 34, co (Str.ofString "heappop") 204 8 1 0 0 29 33 (.ref 31) (.ref 32) 210) ::
    (nat_lit 35, fo (Str.ofString "heappop") (.str (Str.ofString "cpy313.heapq") 194) .none .none 34 3 _ _ _ rfl) ::
    (nat_lit 41, co (Str.ofString "_siftdown") 213 16 3 0 0 36 40 (.ref 38) (.ref 39) 222) ::
    (nat_lit 42, fo (Str.ofString "_siftdown") (.str (Str.ofString "cpy313.heapq") 194) .none .none 41 4 _ _ _ rfl) ::
    (nat_lit 48, co (Str.ofString "_siftup") 225 27 2 0 0 43 47 (.ref 45) (.ref 46) 235) ::
    (nat_lit 49, fo (Str.ofString "_siftup") (.str (Str.ofString "cpy313.heapq") 194) .none .none 48 5 _ _ _ rfl) ::
    (nat_lit 55, co (Str.ofString "_buffer") 240 42 1 0 0 50 54 (.ref 52) (.ref 53) 245) ::
    (nat_lit 56, fo (Str.ofString "_buffer") (.str (Str.ofString "binascii") 238) .none .none 55 7 _ _ _ rfl) ::
    (nat_lit 62, co (Str.ofString "_truth") 248 49 1 0 0 57 61 (.ref 59) (.ref 60) 253) ::
    (nat_lit 63, fo (Str.ofString "_truth") (.str (Str.ofString "binascii") 238) .none .none 62 8 _ _ _ rfl) ::
    (nat_lit 64, { cls := .type "dict", data := .dict #[en P (Str.ofString "newline") 258 (.bool true)] 1 }) ::
    (nat_lit 70, co (Str.ofString "b2a_base64") 259 55 1 1 1 65 69 (.ref 67) (.ref 68) 269) ::
    (nat_lit 71, fo (Str.ofString "b2a_base64") (.str (Str.ofString "binascii") 238) .none (.ref 64) 70 10 _ _ _ rfl) ::
    (nat_lit 72, { cls := .type "tuple", data := .seq #[.none] }) ::
    (nat_lit 78, co (Str.ofString "b64encode") 274 78 2 0 0 73 77 (.ref 75) (.ref 76) 280) ::
    (nat_lit 79, fo (Str.ofString "b64encode") (.str (Str.ofString "cpy313.base64") 272) (.ref 72) .none 78 12 _ _ _ rfl) ::
    (nat_lit 85, co (Str.ofString "cmp_to_key") 285 85 1 0 0 80 84 (.ref 82) (.ref 83) 291) ::
    (nat_lit 86, fo (Str.ofString "cmp_to_key") (.str (Str.ofString "cpy313.functools") 283) .none .none 85 14 _ _ _ rfl) ::
    (nat_lit 87, { cls := .type "object" }) ::
    (nat_lit 88, { cls := .type "tuple", data := .seq #[.ref 87] }) ::
    (nat_lit 94, co (Str.ofString "reduce") 295 111 3 0 0 89 93 (.ref 91) (.ref 92) 304) ::
    (nat_lit 95, fo (Str.ofString "reduce") (.str (Str.ofString "cpy313.functools") 283) (.ref 88) .none 94 16 _ _ _ rfl) ::
    (nat_lit 99, co (Str.ofString "_law_row") 309 124 1 0 0 96 98 .none .none 312) ::
    (nat_lit 100, fo (Str.ofString "_law_row") (.str (Str.ofString "law_aa0004_01") 307) .none .none 99 18 _ _ _ rfl) ::
    (nat_lit 106, co (Str.ofString "_law_compare") 315 126 2 0 0 101 105 (.ref 103) (.ref 104) 322) ::
    (nat_lit 107, fo (Str.ofString "_law_compare") (.str (Str.ofString "law_aa0004_01") 307) .none .none 106 19 _ _ _ rfl) ::
    (nat_lit 111, co (Str.ofString "_law_orders") 325 129 1 0 0 108 110 .none .none 328) ::
    (nat_lit 112, fo (Str.ofString "_law_orders") (.str (Str.ofString "law_aa0004_01") 307) .none .none 111 20 _ _ _ rfl) ::
    (nat_lit 116, co (Str.ofString "_law_off") 331 133 2 0 0 113 115 .none .none 334) ::
    (nat_lit 117, fo (Str.ofString "_law_off") (.str (Str.ofString "law_aa0004_01") 307) .none .none 116 21 _ _ _ rfl) ::
    (nat_lit 123, co (Str.ofString "_law_laid") 337 143 1 0 0 118 122 (.ref 120) (.ref 121) 341) ::
    (nat_lit 124, fo (Str.ofString "_law_laid") (.str (Str.ofString "law_aa0004_01") 307) .none .none 123 22 _ _ _ rfl) ::
    (nat_lit 130, co (Str.ofString "_law_sixes") 344 145 1 0 0 125 129 (.ref 127) (.ref 128) 352) ::
    (nat_lit 131, fo (Str.ofString "_law_sixes") (.str (Str.ofString "law_aa0004_01") 307) .none .none 130 23 _ _ _ rfl) ::
    (nat_lit 135, co (Str.ofString "law") 355 152 1 0 0 132 134 .none .none 358) ::
    (nat_lit 136, fo (Str.ofString "law") (.str (Str.ofString "law_aa0004_01") 307) .none .none 135 24 _ _ _ rfl) :: []
noncomputable def kAs : List Addr := [2, 3, 20, 21, 27, 28, 34, 35, 41, 42, 48, 49, 55, 56, 62, 63, 64, 70, 71, 72, 78, 79, 85, 86, 87, 88, 94, 95, 99, 100, 106, 107, 111, 112, 116, 117, 123, 124, 130, 131, 135, 136]
theorem kAs_eq (P : Params) : kAs = (KA P).map (·.1) := by kernel_rfl
noncomputable def vw : Program := view PySem.Challenge.rw_aa0004_01.row.prog [0, 2, 3, 4, 5, 7, 8, 9, 14, 15, 18, 19, 20, 21, 22, 23, 24]
theorem hlaw (h : PySem.Challenge.rw_aa0004_01.row.wellSaid = true → PySem.Challenge.rw_aa0004_01.row.Holds) : PySem.Challenge.rw_aa0004_01.Holds := by
  w_on
  o_law
  exact h (by assumption)
noncomputable def kept (p : Program) (h₀ : Heap) (s : Shared) : Bool := staticsOk (importedModules p.main.body) h₀ s.heap && namesBound p s.heap && gensDone s && laidKept h₀ s.heap
theorem topFrom_map {β : Type} {tb : String → Option Builtin} {p : Program} {w : World} {N : Nat} {s₀ : Shared} {f : Shared → β} (h : (s₀.heap.isNs mainGlobals && s₀.gens.size == 0) = true) :
    (topFrom tb p w N s₀).map f = ((topRun tb p w s₀.heap.objs.size (s₀.heap.nsMap mainGlobals "__annotations__") N s₀ (topStub p)).map fun s => (kept p s₀.heap s, f s)).bind fun x => cond x.1 (some x.2) none := by
  unfold topFrom
  rw [h]
  show Option.map f (Option.bind _ _) = _
  generalize topRun tb p w _ _ N s₀ (topStub p) = r
  cases r with
  | none => rfl
  | some s =>
    show Option.map f (match kept p s₀.heap s with | true => some s | false => none) = cond (kept p s₀.heap s) (some (f s)) none
    cases kept p s₀.heap s <;> rfl
theorem left_of {p q : Program} {loose : List Str} {Xt : Shared → Bool} {α : Type} {Yf : Shared → α} {Ya : World → α} {N : Nat}
    (op : ∀ w : World, (fencedOpening treeTable p w N).map (fun s => (s.heap, s.gens, s.drawn, s.toks)) = some (boot_heap w.params, Array.mk [], boot_drawn, boot_toks))
    (ns : ∀ w : World, (boot_heap w.params).isNs mainGlobals = true)
    (run : ∀ (w : World) (os : OsState), (topRun treeTable p w (boot_heap w.params).objs.size ((boot_heap w.params).nsMap mainGlobals "__annotations__") N ⟨boot_heap w.params, Array.mk [], boot_drawn, boot_toks, os⟩ (topStub p)).map
      (fun s => (kept p (boot_heap w.params) s, openSeen q loose (importedModules p.main.body) Xt true s, Yf s)) = some (true, openGood q loose, Ya w)) :
    LeftO p q loose Xt Yf Ya N := by
  intro w
  show ((fencedOpening treeTable p w N).bind _).map _ = _
  obtain ⟨⟨h, gs, d, k, os⟩, e, o⟩ := Option.map_eq_some_iff.mp (op w)
  rw [e]
  cases (show (h, gs, d, k) = _ from o)
  exact (topFrom_map (by rw [ns w]; rfl)).trans (by rw [run w _]; rfl)
theorem left : LeftO PySem.Challenge.rw_aa0004_01.row.prog vw [Str.ofString "b2a_base64", Str.ofString "b64encode", Str.ofString "_initial_missing", Str.ofString "reduce"]
    (fun s => xlAt vw [] s && recOk (RowW.records PySem.Challenge.rw_aa0004_01.row.toRowW) s) (Hook.obs (kmHook KA kAs kAs_eq [119, 81, 133])) (Hook.val (kmHook KA kAs kAs_eq [119, 81, 133])) 1400 :=
  left_of (boot_open (by kernel_rfl) (by decide) (fun _ => rfl)) (fun w => by kernel_rfl) fun w os => by
    first
      | (rw [PySem.W.Fast.te14082659384304107361, PySem.W.Fast.te14364793385576792824, PySem.W.Fast.te4187177175401517315, PySem.W.Fast.te5923862056798008813]; kernel_rfl)
      | kernel_rfl
end Mine
set_option tactic.hygienic false
open PySem PySem.W PySem.Calls PyProof.Rows
set_option Elab.async false
set_option maxRecDepth 100000
set_option linter.unusedVariables false
namespace Mine
noncomputable def PR : Program := PySem.Challenge.rw_aa0004_01.prog
noncomputable def KF (w : World) : Frag := KA w.params
noncomputable def Le (g h : Heap) : Prop := ∀ b o, g.get? b = some o → h.get? b = some o
theorem Le.refl (g : Heap) : Le g g := fun _ _ e => e
theorem Le.trans {a b c : Heap} (x : Le a b) (y : Le b c) : Le a c := fun i o e => y i o (x i o e)
noncomputable def restr (h : Heap) (p : Addr → Bool) : Heap := ⟨h.objs.mapIdx fun i o => if p i then o else { cls := .none, data := .freed }, h.life⟩
theorem restr_get (h : Heap) (p : Addr → Bool) (b : Addr) : (restr h p).get? b = if p b then h.get? b else none := by
  unfold Heap.get? restr
  simp only [Array.getElem?_mapIdx]
  cases e : h.objs[b]? with
  | none => simp
  | some o => by_cases q : p b = true <;> simp [q]
theorem restr_size (h : Heap) (p : Addr → Bool) : (restr h p).objs.size = h.objs.size := by simp [restr]
noncomputable def grow (g h : Heap) (S : Addr → Bool) : Heap := restr h fun b => (g.get? b).isSome || S b
theorem grow_le {g h : Heap} {S : Addr → Bool} (x : Le g h) : Le g (grow g h S) := fun b o e => by
  unfold grow; rw [restr_get, e]; simpa using x b o e
theorem grow_in {g h : Heap} {S : Addr → Bool} : Le (grow g h S) h := fun b o e => by
  unfold grow at e; rw [restr_get] at e
  split at e
  · exact e
  · cases e
theorem grow_new {g h : Heap} {S : Addr → Bool} {b : Addr} {o : Obj} (q : S b = true) (e : h.get? b = some o) : (grow g h S).get? b = some o := by
  unfold grow; rw [restr_get, q]; simpa using e
theorem grow_old {g h : Heap} {S : Addr → Bool} (x : Le g h) {b : Addr} {o : Obj} (e : (grow g h S).get? b = some o) : g.get? b = some o ∨ S b = true := by
  have e' := e
  unfold grow at e; rw [restr_get] at e
  split at e
  · rename_i q
    rcases Bool.or_eq_true_iff.mp q with q | q
    · obtain ⟨o', h'⟩ := Option.isSome_iff_exists.mp q
      have := x b o' h'
      rw [grow_in b o e'] at this
      cases this
      exact .inl h'
    · exact .inr q
  · cases e
inductive AV where
  | none | bool (b : Bool) | int (i : Int) | bytes (x : List UInt8) | raw (v : Value)
  | list (xs : List AV) | tup (xs : List AV) | mlist (a : Addr) | inst (C a : Addr) (x : List UInt8) | rng (a b c : Int)
noncomputable def LstAt (h : Heap) (a : Addr) (vs : List Value) : Prop := ∃ n, h.get? a = some { cls := .type "list", dict := none, data := .seq vs.toArray n, slots := #[] }
noncomputable def TupAt (h : Heap) (a : Addr) (vs : List Value) : Prop := ∃ n, h.get? a = some { cls := .type "tuple", dict := none, data := .seq vs.toArray n, slots := #[] }
noncomputable def instO (C dx : Addr) (x : List UInt8) (t : Tok) : Obj := { cls := .ref C, dict := some dx, data := .plain, slots := #[some (.bytes x.toArray t)] }
inductive RV (g : Heap) : AV → Value → Prop
  | none : RV g .none .none
  | bool (b : Bool) : RV g (.bool b) (.bool b)
  | int (i : Int) (t : Tok) : RV g (.int i) (.int i t)
  | bytes (x : List UInt8) (t : Tok) : RV g (.bytes x) (.bytes x.toArray t)
  | raw (v : Value) : RV g (.raw v) v
  | list {xs : List AV} {a : Addr} {vs : List Value} (h : LstAt g a vs) (n : vs.length = xs.length) (r : ∀ (i : Nat) (x : AV) (v : Value), xs[i]? = some x → vs[i]? = some v → RV g x v) : RV g (.list xs) (.ref a)
  | tup {xs : List AV} {a : Addr} {vs : List Value} (h : TupAt g a vs) (n : vs.length = xs.length) (r : ∀ (i : Nat) (x : AV) (v : Value), xs[i]? = some x → vs[i]? = some v → RV g x v) : RV g (.tup xs) (.ref a)
  | mlist (a : Addr) : RV g (.mlist a) (.ref a)
  | inst {C a dx : Addr} {x : List UInt8} {t : Tok} (h : g.get? a = some (instO C dx x t)) (hd : g.get? dx = some { cls := .type "dict", data := .dict #[] }) (hz : x.length = 3 ∨ x.length = 6) : RV g (.inst C a x) (.ref a)
  | rng {r : Addr} {a b c : Int} {t u v : Tok} (h : g.get? r = some { cls := .type "range", dict := none, data := .fields #[.int a t, .int b u, .int c v], slots := #[] }) : RV g (.rng a b c) (.ref r)
noncomputable def RVs (g : Heap) (xs : List AV) (vs : List Value) : Prop := vs.length = xs.length ∧ ∀ (i : Nat) (x : AV) (v : Value), xs[i]? = some x → vs[i]? = some v → RV g x v
theorem LstAt.mono {g g' : Heap} {a : Addr} {vs : List Value} (h : LstAt g a vs) (k : Le g g') : LstAt g' a vs := let ⟨n, e⟩ := h; ⟨n, k _ _ e⟩
theorem TupAt.mono {g g' : Heap} {a : Addr} {vs : List Value} (h : TupAt g a vs) (k : Le g g') : TupAt g' a vs := let ⟨n, e⟩ := h; ⟨n, k _ _ e⟩
theorem LstAt.isList {h : Heap} {a : Addr} {vs : List Value} (x : LstAt h a vs) : h.IsList a vs.toArray := let ⟨n, e⟩ := x; ⟨_, e, rfl, n, rfl⟩
theorem RV.mono {g g' : Heap} (k : Le g g') {x : AV} {v : Value} (h : RV g x v) : RV g' x v := by
  induction h with
  | none => exact .none
  | bool b => exact .bool b
  | int i t => exact .int i t
  | bytes x t => exact .bytes x t
  | raw v => exact .raw v
  | list h n _ ih => exact .list (h.mono k) n ih
  | tup h n _ ih => exact .tup (h.mono k) n ih
  | mlist a => exact .mlist a
  | inst h hd hz => exact .inst (k _ _ h) (k _ _ hd) hz
  | rng h => exact .rng (k _ _ h)
theorem RVs.mono {g g' : Heap} (k : Le g g') {x : List AV} {v : List Value} (h : RVs g x v) : RVs g' x v := ⟨h.1, fun i a b e f => (h.2 i a b e f).mono k⟩
theorem RVs.nil {g : Heap} : RVs g [] [] := ⟨rfl, fun i x v e => by simp at e⟩
theorem RVs.cons {g : Heap} {x : AV} {xs : List AV} {v : Value} {vs : List Value} (h : RV g x v) (r : RVs g xs vs) : RVs g (x :: xs) (v :: vs) :=
  ⟨by simp [r.1], fun i a b e f => by
    cases i with
    | zero => simp at e f; subst e; subst f; exact h
    | succ i => simp at e f; exact r.2 i a b e f⟩
theorem RVs.uncons {g : Heap} {x : AV} {xs : List AV} {vs : List Value} (h : RVs g (x :: xs) vs) : ∃ v vs', vs = v :: vs' ∧ RV g x v ∧ RVs g xs vs' := by
  obtain ⟨n, r⟩ := h
  cases vs with
  | nil => simp at n
  | cons v vs => exact ⟨v, vs, rfl, r 0 x v (by simp) (by simp), by simpa using n, fun i a b e f => r (i + 1) a b (by simpa using e) (by simpa using f)⟩
theorem RVs.unnil {g : Heap} {vs : List Value} (h : RVs g [] vs) : vs = [] := List.eq_nil_of_length_eq_zero (by simpa using h.1)
theorem RVs.append {g : Heap} {xs ys : List AV} {vs us : List Value} (h : RVs g xs vs) (k : RVs g ys us) : RVs g (xs ++ ys) (vs ++ us) :=
  ⟨by simp [h.1, k.1], fun i a b e f => by
    by_cases q : i < xs.length
    · rw [List.getElem?_append_left q] at e
      rw [List.getElem?_append_left (by rw [h.1]; exact q)] at f
      exact h.2 i a b e f
    · rw [List.getElem?_append_right (by omega)] at e
      rw [List.getElem?_append_right (by rw [h.1]; omega), h.1] at f
      exact k.2 _ a b e f⟩
theorem RVs.get {g : Heap} {xs : List AV} {vs : List Value} (h : RVs g xs vs) {i : Nat} {x : AV} (e : xs[i]? = some x) : ∃ v, vs[i]? = some v ∧ RV g x v := by
  have hi : i < vs.length := by rw [h.1]; exact (List.getElem?_eq_some_iff.mp e).1
  exact ⟨vs[i], List.getElem?_eq_getElem hi, h.2 i x _ e (List.getElem?_eq_getElem hi)⟩
theorem RVs.set {g : Heap} {xs : List AV} {vs : List Value} (h : RVs g xs vs) {i : Nat} {x : AV} {v : Value} (r : RV g x v) : RVs g (xs.set i x) (vs.set i v) :=
  ⟨by simp [h.1], fun j a b e f => by
    by_cases q : i = j
    · subst q
      rw [List.getElem?_set] at e f
      simp only [if_true] at e f
      split at e
      · split at f
        · cases e; cases f; exact r
        · cases f
      · cases e
    · rw [List.getElem?_set_ne q] at e f
      exact h.2 j a b e f⟩
theorem RV.list' {g : Heap} {xs : List AV} {a : Addr} {vs : List Value} (h : LstAt g a vs) (r : RVs g xs vs) : RV g (.list xs) (.ref a) := .list h r.1 r.2
theorem RV.tup' {g : Heap} {xs : List AV} {a : Addr} {vs : List Value} (h : TupAt g a vs) (r : RVs g xs vs) : RV g (.tup xs) (.ref a) := .tup h r.1 r.2
theorem RV.unlist {g : Heap} {xs : List AV} {v : Value} (h : RV g (.list xs) v) : ∃ a vs, v = .ref a ∧ LstAt g a vs ∧ RVs g xs vs := by
  cases h with | list h n r => exact ⟨_, _, rfl, h, n, r⟩
theorem RV.untup {g : Heap} {xs : List AV} {v : Value} (h : RV g (.tup xs) v) : ∃ a vs, v = .ref a ∧ TupAt g a vs ∧ RVs g xs vs := by
  cases h with | tup h n r => exact ⟨_, _, rfl, h, n, r⟩
noncomputable def RVInv (g : Heap) : AV → Value → Prop
  | .none, v => ∃ _ : Unit, v = .none
  | .bool b, v => ∃ _ : Unit, v = .bool b
  | .int i, v => ∃ t, v = .int i t
  | .bytes x, v => ∃ t, v = .bytes x.toArray t
  | .raw u, v => ∃ _ : Unit, v = u
  | .mlist a, v => ∃ _ : Unit, v = .ref a
  | .inst C a x, v => ∃ dx t, v = .ref a ∧ g.get? a = some (instO C dx x t) ∧ g.get? dx = some { cls := .type "dict", data := .dict #[] } ∧ (x.length = 3 ∨ x.length = 6)
  | .rng a b c, v => ∃ r t u w, v = .ref r ∧ g.get? r = some { cls := .type "range", dict := none, data := .fields #[.int a t, .int b u, .int c w], slots := #[] }
  | _, _ => True
theorem RV.inv {g : Heap} {a : AV} {v : Value} (h : RV g a v) : RVInv g a v := by
  cases h with
  | none => exact ⟨(), rfl⟩
  | bool b => exact ⟨(), rfl⟩
  | int i t => exact ⟨t, rfl⟩
  | bytes x t => exact ⟨t, rfl⟩
  | raw v => exact ⟨(), rfl⟩
  | list h n r => trivial
  | tup h n r => trivial
  | mlist a => exact ⟨(), rfl⟩
  | inst h hd hz => exact ⟨_, _, rfl, h, hd, hz⟩
  | rng h => exact ⟨_, _, _, _, rfl, h⟩
structure Base (w : World) (g : Heap) : Prop where
  K : (KF w).In g
  T : ∃ p loose mean mg mb, Top p loose mean mg mb g
theorem Base.mono {w : World} {g g' : Heap} (B : Base w g) (k : Le g g') : Base w g' := ⟨B.K.keeps k, let ⟨p, l, m, a, b, T⟩ := B.T; ⟨p, l, m, a, b, T.keeps k⟩⟩
noncomputable def TabAt (h : Heap) (P : Addr) (ps : Array Value) : Prop := h.get? P = some (tabObj ps) ∧ TriplesOk ps.toList
noncomputable abbrev posLaid : Pos := ⟨144, 18, 144, 57⟩
noncomputable abbrev posLaw : Pos := ⟨154, 56, 154, 95⟩
noncomputable abbrev posK : Pos := ⟨87, 4, 108, 23⟩
noncomputable abbrev qLaid : Str := Str.ofString "_law_laid.<locals>.<lambda>"
noncomputable abbrev qLaw : Str := Str.ofString "law.<locals>.<lambda>"
noncomputable abbrev qK : Str := Str.ofString "cmp_to_key.<locals>.K"
noncomputable def six : List (Pos × Str) := [(⟨91, 8, 92, 26⟩, Str.ofString "cmp_to_key.<locals>.K.__init__"), (⟨94, 8, 95, 49⟩, Str.ofString "cmp_to_key.<locals>.K.__lt__"), (⟨97, 8, 98, 49⟩, Str.ofString "cmp_to_key.<locals>.K.__gt__"), (⟨100, 8, 101, 50⟩, Str.ofString "cmp_to_key.<locals>.K.__eq__"), (⟨103, 8, 104, 50⟩, Str.ofString "cmp_to_key.<locals>.K.__le__"), (⟨106, 8, 107, 50⟩, Str.ofString "cmp_to_key.<locals>.K.__ge__")]
noncomputable def CodesOk (g : Heap) (l : List (Pos × Str)) (ps : Array Value) : Prop := ∀ r ∈ l, ∀ cv, codeAmong r.1 ps.toList = some cv → g.CodeRec cv r.2
noncomputable def ClsOk (g : Heap) (pc : Option Addr) (h : Heap) (ps : Array Value) : Prop :=
  match pc with
  | none => codeAmong posK ps.toList = none
  | some p => ∃ cc psC, codeAmong posK ps.toList = some (.ref cc) ∧ CodeHd g cc p ∧ g.CodeRec (.ref cc) qK ∧ TabAt h p psC ∧ CodesOk g six psC
structure TabI (g : Heap) (pc : Option Addr) (h : Heap) : Prop where
  laid : ∃ ps, TabAt h 119 ps ∧ CodesOk g [(posLaid, qLaid)] ps
  law : ∃ ps, TabAt h 133 ps ∧ CodesOk g [(posLaw, qLaw)] ps
  cls : ∃ ps, TabAt h 81 ps ∧ ClsOk g pc h ps
  pcne : ∀ p, pc = some p → p ≠ 81 ∧ p ≠ 119 ∧ p ≠ 133
inductive MV where
  | lst (a : Addr) (xs : List AV) | tab (pc : Option Addr)
noncomputable abbrev Mu := Option MV
noncomputable def mad : Mu → Addr → Prop
  | none, _ => False
  | some (.lst a _), b => b = a
  | some (.tab pc), b => b = 81 ∨ b = 119 ∨ b = 133 ∨ pc = some b
theorem mad_none {b : Addr} : ¬ mad none b := fun h => h
noncomputable def MOk (g : Heap) (μ : Mu) (h : Heap) : Prop :=
  match μ with
  | none => True
  | some (.lst a xs) => ∃ vs, LstAt h a vs ∧ RVs g xs vs
  | some (.tab pc) => TabI g pc h
structure MuRel (g : Heap) (μ : Mu) (h : Heap) : Prop where
  off : ∀ b, mad μ b → g.get? b = none
  there : ∀ b, mad μ b → ∃ o, h.get? b = some o
  ok : MOk g μ h
theorem MuRel.nil {g h : Heap} : MuRel g none h := ⟨fun _ m => m.elim, fun _ m => m.elim, trivial⟩
theorem MuRel.lst {g h : Heap} {a : Addr} {xs : List AV} (M : MuRel g (some (.lst a xs)) h) : g.get? a = none ∧ ∃ vs, LstAt h a vs ∧ RVs g xs vs := ⟨M.off a rfl, M.ok⟩
theorem MuRel.ofLst {g h : Heap} {a : Addr} {xs : List AV} {vs : List Value} (ha : g.get? a = none) (hl : LstAt h a vs) (r : RVs g xs vs) : MuRel g (some (.lst a xs)) h :=
  ⟨fun b m => by cases m; exact ha, fun b m => by cases m; obtain ⟨n, e⟩ := hl; exact ⟨_, e⟩, vs, hl, r⟩
theorem CodesOk.mono {g g' : Heap} (k : Le g g') {l : List (Pos × Str)} {ps : Array Value} (h : CodesOk g l ps) : CodesOk g' l ps := fun r hr cv e => (h r hr cv e).keeps k
theorem ClsOk.keep {g g' h h' : Heap} {pc : Option Addr} {ps : Array Value} (k : Le g g') (hk : ∀ p, pc = some p → ∀ o, h.get? p = some o → h'.get? p = some o) (x : ClsOk g pc h ps) : ClsOk g' pc h' ps := by
  cases pc with
  | none => exact x
  | some p => obtain ⟨cc, psC, h1, h2, h3, ⟨h4, h5⟩, h6⟩ := x; exact ⟨cc, psC, h1, h2.keeps k, h3.keeps k, ⟨hk p rfl _ h4, h5⟩, h6.mono k⟩
theorem TabI.keep {g g' h h' : Heap} {pc : Option Addr} (k : Le g g') (hk : ∀ b, mad (some (.tab pc)) b → ∀ o, h.get? b = some o → h'.get? b = some o) (x : TabI g pc h) : TabI g' pc h' where
  laid := let ⟨ps, ⟨h1, h2⟩, h3⟩ := x.laid; ⟨ps, ⟨hk 119 (.inr (.inl rfl)) _ h1, h2⟩, h3.mono k⟩
  law := let ⟨ps, ⟨h1, h2⟩, h3⟩ := x.law; ⟨ps, ⟨hk 133 (.inr (.inr (.inl rfl))) _ h1, h2⟩, h3.mono k⟩
  cls := let ⟨ps, ⟨h1, h2⟩, h3⟩ := x.cls; ⟨ps, ⟨hk 81 (.inl rfl) _ h1, h2⟩, h3.keep k fun p e => hk p (.inr (.inr (.inr e)))⟩
  pcne := x.pcne
theorem MuRel.keep {g g' h h' : Heap} {μ : Mu} (M : MuRel g μ h) (k : Le g g') (hk : ∀ b, mad μ b → ∀ o, h.get? b = some o → h'.get? b = some o) (ho : ∀ b, mad μ b → g'.get? b = none) : MuRel g' μ h' := by
  refine ⟨ho, fun b m => let ⟨o, e⟩ := M.there b m; ⟨o, hk b m o e⟩, ?_⟩
  match μ, M, hk with
  | none, _, _ => trivial
  | some (.lst a xs), M, hk => obtain ⟨vs, ⟨n, h2⟩, h3⟩ := M.ok; exact ⟨vs, ⟨n, hk a rfl _ h2⟩, h3.mono k⟩
  | some (.tab pc), M, hk => exact TabI.keep k hk M.ok
structure Stp (Fx : Addr → Prop) (μ : Mu) (g h : Heap) (μ' : Mu) (g' h' : Heap) : Prop where
  le : Le g g'
  fresh : ∀ b o, g'.get? b = some o → g.get? b = some o ∨ h.get? b = none
  kp : ∀ b o, h.get? b = some o → ¬ Fx b → ¬ mad μ b → h'.get? b = some o
  dom : ∀ b o, h.get? b = some o → ∃ o', h'.get? b = some o'
  mu : ∀ b, mad μ' b → mad μ b ∨ h.get? b = none
noncomputable abbrev noF : Addr → Prop := fun _ => False
theorem dom_none {h h' : Heap} (d : ∀ b o, h.get? b = some o → ∃ o', h'.get? b = some o') {b : Addr} (e : h'.get? b = none) : h.get? b = none := by
  cases q : h.get? b with
  | none => rfl
  | some o => obtain ⟨o', q'⟩ := d b o q; rw [e] at q'; cases q'
theorem Le.dom {h h' : Heap} (k : Le h h') : ∀ b o, h.get? b = some o → ∃ o', h'.get? b = some o' := fun b o e => ⟨o, k b o e⟩
theorem Stp.refl {Fx : Addr → Prop} {μ : Mu} {g h : Heap} : Stp Fx μ g h μ g h := ⟨.refl _, fun _ _ e => .inl e, fun _ _ e _ _ => e, fun _ o e => ⟨o, e⟩, fun _ e => .inl e⟩
theorem Stp.trans {Fx : Addr → Prop} {μ μ₁ μ₂ : Mu} {g h g₁ h₁ g₂ h₂ : Heap} (x : Stp Fx μ g h μ₁ g₁ h₁) (y : Stp Fx μ₁ g₁ h₁ μ₂ g₂ h₂) : Stp Fx μ g h μ₂ g₂ h₂ where
  le := x.le.trans y.le
  fresh := fun b o e => (y.fresh b o e).elim (x.fresh b o) fun q => .inr (dom_none x.dom q)
  kp := fun b o e f m => y.kp b o (x.kp b o e f m) f fun m' => (x.mu b m').elim m fun q => by rw [q] at e; cases e
  dom := fun b o e => let ⟨o₁, e₁⟩ := x.dom b o e; y.dom b o₁ e₁
  mu := fun b m => (y.mu b m).elim (x.mu b) fun q => .inr (dom_none x.dom q)
theorem Stp.weak {Fx : Addr → Prop} {μ μ' : Mu} {g h g' h' : Heap} (x : Stp noF μ g h μ' g' h') : Stp Fx μ g h μ' g' h' := ⟨x.le, x.fresh, fun b o e _ m => x.kp b o e (fun f => f) m, x.dom, x.mu⟩
theorem Stp.frame {Fx : Addr → Prop} {μ : Mu} {g h g' h' : Heap} (x : Stp Fx none g h none g' h') : Stp Fx μ g h μ g' h' := ⟨x.le, x.fresh, fun b o e f _ => x.kp b o e f mad_none, x.dom, fun _ e => .inl e⟩
theorem none_of_fresh {g g' h : Heap} {b : Addr} {o₀ : Obj} (fr : ∀ b o, g'.get? b = some o → g.get? b = some o ∨ h.get? b = none) (h0 : g.get? b = none) (hb : h.get? b = some o₀) : g'.get? b = none := by
  cases q : g'.get? b with
  | none => rfl
  | some o =>
    rcases fr b o q with r | r
    · rw [h0] at r; cases r
    · rw [hb] at r; cases r
theorem MuRel.frame {Fx : Addr → Prop} {μ : Mu} {g h g' h' : Heap} (x : Stp Fx none g h none g' h') (hF : ∀ b, mad μ b → ¬ Fx b) (m : MuRel g μ h) : MuRel g' μ h' :=
  m.keep x.le (fun b hb o e => x.kp b o e (hF b hb) mad_none) fun b hb => let ⟨_, e⟩ := m.there b hb; none_of_fresh x.fresh (m.off b hb) e
noncomputable abbrev Vars := List (Str × AV)
noncomputable def own (env : Env) (b : Addr) : Prop := b = env.locals ∨ ∃ x, env.kindOf x = some .cell ∧ env.cells.lookup x = some b
structure Loc (g : Heap) (env : Env) (ρ : Vars) (h : Heap) : Prop where
  fn : env.scope.kind = .function
  gl : env.globals = mainGlobals
  bl : env.builtins = builtinsNs
  ns : ∃ m, h.Ns env.locals m ∧ ∀ x a, ρ.lookup x = some a → env.kindOf x = some .local → ∃ v, m x = some v ∧ RV g a v
  off : g.get? env.locals = none
  cell : ∀ x a, ρ.lookup x = some a → env.kindOf x = some .cell ∨ env.kindOf x = some .free → ∃ c v, env.cells.lookup x = some c ∧ h.IsCell c (some v) ∧ RV g a v
  cells : ∀ x c, env.cells.lookup x = some c → (∃ v, h.IsCell c v) ∧ c ≠ env.locals ∧ (env.kindOf x = some .cell → g.get? c = none)
  apart : ∀ x y c, env.cells.lookup x = some c → env.cells.lookup y = some c → x = y
structure Rel (w : World) (g : Heap) (env : Env) (ρ : Vars) (μ : Mu) (h : Heap) : Prop where
  B : Base w g
  le : Le g h
  L : Loc g env ρ h
  mu : MuRel g μ h
  muOff : ∀ b, mad μ b → ¬ own env b ∧ ∀ x, env.cells.lookup x ≠ some b
theorem Loc.there {g : Heap} {env : Env} {ρ : Vars} {h : Heap} (L : Loc g env ρ h) : ∃ o, h.get? env.locals = some o := let ⟨_, ⟨o, _, _, e, _⟩, _⟩ := L.ns; ⟨o, e⟩
theorem Loc.step {g h g' h' : Heap} {env : Env} {ρ : Vars} {μ μ' : Mu} (L : Loc g env ρ h) (x : Stp noF μ g h μ' g' h') (hm : ∀ b, mad μ b → ¬ own env b ∧ ∀ x, env.cells.lookup x ≠ some b) : Loc g' env ρ h' where
  fn := L.fn
  gl := L.gl
  bl := L.bl
  ns := by
    obtain ⟨m, ⟨o, es, ep, e, r⟩, q⟩ := L.ns
    exact ⟨m, ⟨o, es, ep, x.kp _ _ e (fun f => f) (fun m => (hm _ m).1 (.inl rfl)), r⟩, fun y a h1 h2 => let ⟨v, h3, h4⟩ := q y a h1 h2; ⟨v, h3, h4.mono x.le⟩⟩
  off := let ⟨_, e⟩ := L.there; none_of_fresh x.fresh L.off e
  cell := fun y a h1 h2 => let ⟨c, v, h3, ⟨o, h4, h4'⟩, h5⟩ := L.cell y a h1 h2; ⟨c, v, h3, ⟨o, x.kp _ _ h4 (fun f => f) (fun m => (hm _ m).2 y h3), h4'⟩, h5.mono x.le⟩
  cells := fun y c h1 => by
    obtain ⟨⟨v, o, h2, h3⟩, h4, h5⟩ := L.cells y c h1
    exact ⟨⟨v, o, x.kp _ _ h2 (fun f => f) (fun m => (hm _ m).2 y h1), h3⟩, h4, fun k => none_of_fresh x.fresh (h5 k) h2⟩
  apart := L.apart
structure Bk (w : World) (Fx : Addr → Prop) (μ : Mu) (g h : Heap) (μ' : Mu) (g' h' : Heap) : Prop where
  st : Stp Fx μ g h μ' g' h'
  le : Le g' h'
  mu : MuRel g' μ' h'
theorem Rel.step {w : World} {g h g' h' : Heap} {env : Env} {ρ : Vars} {μ μ' : Mu} (R : Rel w g env ρ μ h) (x : Bk w noF μ g h μ' g' h') : Rel w g' env ρ μ' h' where
  B := R.B.mono x.st.le
  le := x.le
  L := R.L.step x.st R.muOff
  mu := x.mu
  muOff := fun b m => by
    rcases x.st.mu b m with q | q
    · exact R.muOff b q
    · refine ⟨fun o => ?_, fun y hy => ?_⟩
      · rcases o with rfl | ⟨y, _, hy⟩
        · obtain ⟨o, e⟩ := R.L.there; rw [q] at e; cases e
        · obtain ⟨⟨v, o, h2, _⟩, _⟩ := R.L.cells y b hy
          rw [q] at h2; cases h2
      · obtain ⟨⟨v, o, h2, _⟩, _⟩ := R.L.cells y b hy
        rw [q] at h2; cases h2
theorem Bk.refl {w : World} {Fx : Addr → Prop} {μ : Mu} {g h : Heap} (le : Le g h) (mu : MuRel g μ h) : Bk w Fx μ g h μ g h := ⟨.refl, le, mu⟩
theorem Bk.trans {w : World} {Fx : Addr → Prop} {μ μ₁ μ₂ : Mu} {g h g₁ h₁ g₂ h₂ : Heap} (x : Bk w Fx μ g h μ₁ g₁ h₁) (y : Bk w Fx μ₁ g₁ h₁ μ₂ g₂ h₂) : Bk w Fx μ g h μ₂ g₂ h₂ := ⟨x.st.trans y.st, y.le, y.mu⟩
theorem Bk.weak {w : World} {Fx : Addr → Prop} {μ μ' : Mu} {g h g' h' : Heap} (x : Bk w noF μ g h μ' g' h') : Bk w Fx μ g h μ' g' h' := ⟨x.st.weak, x.le, x.mu⟩
theorem Bk.frame {w : World} {μ : Mu} {g h g' h' : Heap} (x : Bk w noF none g h none g' h') (m : MuRel g μ h) : Bk w noF μ g h μ g' h' := ⟨x.st.frame, x.le, m.frame x.st fun _ _ f => f⟩
theorem fresh_size (h : Heap) : h.get? h.objs.size = none := by
  cases q : h.get? h.objs.size with
  | none => rfl
  | some o' => exact absurd (Heap.lt_size q) (Nat.lt_irrefl _)
theorem Le.none {g h : Heap} (le : Le g h) {b : Addr} (e : h.get? b = .none) : g.get? b = .none := by
  cases q : g.get? b with
  | none => rfl
  | some o => rw [le b o q] at e; cases e
theorem le_push (h : Heap) (o : Obj) : Le h (h.push o) := fun _ _ e => Heap.get?_push_of_some _ e
theorem Bk.alloc {w : World} {μ : Mu} {g h : Heap} (le : Le g h) (mu : MuRel g μ h) (o : Obj) (hf : o.isFreed = false) :
    ∃ g', Bk w noF μ g h μ g' (h.push o) ∧ g'.get? h.objs.size = some o ∧ g.get? h.objs.size = none := by
  have le' : Le g (h.push o) := le.trans (le_push h o)
  have gn : g.get? h.objs.size = none := le.none (fresh_size h)
  have fr : ∀ b x, (grow g (h.push o) (· == h.objs.size)).get? b = some x → g.get? b = some x ∨ h.get? b = none := fun b x e => by
    rcases grow_old le' e with q | q
    · exact .inl q
    · have : b = h.objs.size := by simpa using q
      exact .inr (this ▸ fresh_size h)
  exact ⟨grow g (h.push o) (· == h.objs.size), ⟨⟨grow_le le', fr, fun b x e _ _ => Heap.get?_push_of_some _ e, (le_push h o).dom, fun b m => .inl m⟩, grow_in, mu.keep (grow_le le') (fun b _ o e => Heap.get?_push_of_some _ e) fun b hb => let ⟨_, e⟩ := mu.there b hb; none_of_fresh fr (mu.off b hb) e⟩, grow_new (by simp) (Heap.get?_push_size _ hf), gn⟩
structure Room (A : Around) (n : Nat) : Prop where
  hh : A.handled = none
  dp : A.depth + n < recursionLimit
  un : A.units + 8 * n < cLine
theorem Room.le {A : Around} {n m : Nat} (R : Room A n) (h : m ≤ n) : Room A m := ⟨R.hh, by have := R.dp; omega, by have := R.un; omega⟩
theorem Room.deeper {A : Around} {n : Nat} (R : Room A (n + 1)) (env : Env) : Room (A.deeper env) n := ⟨R.hh, by have := R.dp; show A.depth + 1 + n < _; omega, by have := R.un; show A.units + 3 + _ < _; omega⟩
theorem Room.u {A : Around} {n : Nat} (R : Room A n) : A.units < cLine := Nat.lt_of_le_of_lt (Nat.le_add_right _ _) R.un
theorem le_const {a b c : Nat} (h : a ≤ b) (k : b ≤ c) : a ≤ c := Nat.le_trans h k
theorem lt_const {a b c : Nat} (h : a < b) (k : b ≤ c) : a ≤ c := Nat.le_of_lt (Nat.lt_of_lt_of_le h k)
theorem i63 {i n k : Nat} (h : i < n) (k1 : n ≤ k) (k2 : k ≤ 2 ^ 63) : (i : Int) < 2 ^ 63 := Int.ofNat_lt.mpr (Nat.lt_of_lt_of_le h (Nat.le_trans k1 k2))
theorem Room.in1 {A : Around} {n : Nat} (R : Room A (n + 1)) : Room A.in1 n := ⟨R.hh, by have := R.dp; show A.depth + n < _; omega, by have := R.un; show A.units + 1 + _ < _; omega⟩
noncomputable def EX (w : World) (A : Around) (env : Env) (e : Expr) (g : Heap) (ρ : Vars) (μ : Mu) (P : Heap → AV → Mu → Prop) : Prop :=
  ∀ (s : Shared) (E : Value → Shared → Prop) (Q : Value → Shared → Prop), Rel w g env ρ μ s.heap →
    (∀ g' a μ' v h' tk, P g' a μ' → Bk w noF μ g s.heap μ' g' h' → RV g' a v → Q v { s with heap := h', toks := tk }) →
    wpAny (model PR w) A (eval e env) Q E s
noncomputable def TX (w : World) (A : Around) (env : Env) (e : Expr) (g : Heap) (ρ : Vars) (μ : Mu) (P : Heap → Bool → Mu → Prop) : Prop :=
  ∀ (s : Shared) (E : Value → Shared → Prop) (Q : Bool → Shared → Prop), Rel w g env ρ μ s.heap →
    (∀ g' b μ' h' tk, P g' b μ' → Bk w noF μ g s.heap μ' g' h' → Q b { s with heap := h', toks := tk }) →
    wpAny (model PR w) A (isTrue e env (eval e env)) Q E s
noncomputable def OX (w : World) (A : Around) (t : List Value → Sem Value) (args : List AV) (g : Heap) (μ : Mu) (P : Heap → AV → Mu → Prop) : Prop :=
  ∀ (s : Shared) (E : Value → Shared → Prop) (Q : Value → Shared → Prop) (vs : List Value), Base w g → Le g s.heap → MuRel g μ s.heap → RVs g args vs →
    (∀ g' a μ' v h' tk, P g' a μ' → Bk w noF μ g s.heap μ' g' h' → RV g' a v → Q v { s with heap := h', toks := tk }) →
    wpAny (model PR w) A (t vs) Q E s
inductive Fl where
  | next | brk | cont | ret (a : AV)
inductive RelF (g : Heap) : Fl → Flow → Prop
  | next : RelF g .next .next
  | brk : RelF g .brk .brk
  | cont : RelF g .cont .cont
  | ret {a : AV} {v : Value} : RV g a v → RelF g (.ret a) (.ret v)
noncomputable def SX (w : World) (A : Around) (env : Env) (ss : List Stmt) (g : Heap) (ρ : Vars) (μ : Mu) (P : Heap → Fl → Vars → Mu → Prop) : Prop :=
  ∀ (s : Shared) (E : Value → Shared → Prop) (Q : Flow → Shared → Prop), Rel w g env ρ μ s.heap →
    (∀ g' f ρ' μ' fl h' tk, P g' f ρ' μ' → Bk w (own env) μ g s.heap μ' g' h' → Rel w g' env ρ' μ' h' → RelF g' f fl → Q fl { s with heap := h', toks := tk }) →
    wpAny (model PR w) A (execs ss env) Q E s
noncomputable def S1 (w : World) (A : Around) (env : Env) (st : Stmt) (g : Heap) (ρ : Vars) (μ : Mu) (P : Heap → Fl → Vars → Mu → Prop) : Prop :=
  ∀ (s : Shared) (E : Value → Shared → Prop) (Q : Flow → Shared → Prop), Rel w g env ρ μ s.heap →
    (∀ g' f ρ' μ' fl h' tk, P g' f ρ' μ' → Bk w (own env) μ g s.heap μ' g' h' → Rel w g' env ρ' μ' h' → RelF g' f fl → Q fl { s with heap := h', toks := tk }) →
    wpAny (model PR w) A (exec st env) Q E s
end Mine
set_option tactic.hygienic false
open PySem PySem.W PySem.Calls PyProof.Rows
set_option Elab.async false
set_option maxRecDepth 100000
set_option linter.unusedVariables false
namespace Mine
noncomputable def setv : Vars → Str → AV → Vars
  | [], x, v => [(x, v)]
  | (y, u) :: r, x, v => if y == x then (y, v) :: r else (y, u) :: setv r x v
theorem setv_lookup : ∀ (ρ : Vars) (x : Str) (a : AV) (y : Str), (setv ρ x a).lookup y = if y = x then some a else ρ.lookup y
  | [], x, a, y => by
    simp only [setv, List.lookup_cons, List.lookup_nil]
    by_cases h : y = x
    · simp [h]
    · have : (y == x) = false := by simpa using h
      simp [h, this]
  | (z, u) :: r, x, a, y => by
    unfold setv
    by_cases q : z = x
    · subst q
      simp only [beq_self_eq_true, if_true, List.lookup_cons]
      by_cases h : y = z
      · simp [h]
      · have : (y == z) = false := by simpa using h
        simp [h, this]
    · have q' : (z == x) = false := by simpa using q
      simp only [q', Bool.false_eq_true, if_false, List.lookup_cons]
      by_cases h : y = z
      · subst h
        simp [q]
      · have : (y == z) = false := by simpa using h
        simp only [this]
        exact setv_lookup r x a y
section
variable {w : World} {A : Around} {env : Env} {g : Heap} {ρ : Vars} {μ : Mu} {P : Heap → AV → Mu → Prop}
theorem EX.name {x : Str} {pos : Pos} {a : AV} (hρ : ρ.lookup x = some a) (hk : env.kindOf x = some .local) (h : P g a μ) (hd : (x == ("__debug__" : Str)) = false := by decide) : EX w A env (.Name x pos) g ρ μ P := by
  intro s E Q R k
  obtain ⟨m, hn, q⟩ := R.L.ns
  obtain ⟨v, hv, r⟩ := q x a hρ hk
  exact wpAny_Name (wpAny_loadName_local R.L.fn hk hn hv (k g a μ v s.heap s.toks h (.refl R.le R.mu) r)) hd
theorem EX.nameC {x : Str} {pos : Pos} {a : AV} (hρ : ρ.lookup x = some a) (hk : env.kindOf x = some .cell) (h : P g a μ) (hd : (x == ("__debug__" : Str)) = false := by decide) : EX w A env (.Name x pos) g ρ μ P := by
  intro s E Q R k
  obtain ⟨c, v, hc, hv, r⟩ := R.L.cell x a hρ (.inl hk)
  exact wpAny_Name (wpAny_loadName_cell R.L.fn hk hc hv (k g a μ v s.heap s.toks h (.refl R.le R.mu) r)) hd
theorem EX.nameF {x : Str} {pos : Pos} {a : AV} (hρ : ρ.lookup x = some a) (hk : env.kindOf x = some .free) (h : P g a μ) (hd : (x == ("__debug__" : Str)) = false := by decide) (hn : (x == ("__classdict__" : Str)) = false := by decide) : EX w A env (.Name x pos) g ρ μ P := by
  intro s E Q R k
  obtain ⟨c, v, hc, hv, r⟩ := R.L.cell x a hρ (.inr hk)
  exact wpAny_Name (wpAny_loadName_free R.L.fn hk hc hv (k g a μ v s.heap s.toks h (.refl R.le R.mu) r) hn) hd
theorem EX.glob {x : Str} {pos : Pos} {v : Value} {a : AV} (e : nsIn (KF w) mainGlobals x = some (some v)) (hk : env.kindOf x = some .globalImplicit) (hv : ∀ g, RV g a v) (h : P g a μ) (hd : (x == ("__debug__" : Str)) = false := by decide) : EX w A env (.Name x pos) g ρ μ P := by
  intro s E Q R k
  obtain ⟨p, l, me, mg, mb, T⟩ := R.B.T
  have hg : s.heap.Ns mainGlobals mg := T.g.keeps R.le
  refine Name_function_global R.L.fn hk (loadGlobal_global (mg := mg) (by rw [R.L.gl]; exact hg) (mg_of (R.B.K.keeps R.le) hg e) (k g a μ v s.heap s.toks h (.refl R.le R.mu) (hv g))) hd
theorem EX.built {x : Str} {pos : Pos} {v : Value} (e : nsIn (KF w) mainGlobals x = some none) (hb : bootBuiltins x = some v) (hk : env.kindOf x = some .globalImplicit) (h : P g (.raw v) μ) (hn : x ≠ "__name__" := by decide) (hd : (x == ("__debug__" : Str)) = false := by decide) : EX w A env (.Name x pos) g ρ μ P := by
  intro s E Q R k
  obtain ⟨p, l, me, mg, mb, T⟩ := R.B.T
  have hg : s.heap.Ns mainGlobals mg := T.g.keeps R.le
  have hbn : s.heap.Ns builtinsNs mb := T.b.keeps R.le
  refine Name_function_global R.L.fn hk (loadGlobal_builtin (mg := mg) (mb := mb) (by rw [R.L.gl]; exact hg) (mg_none_of (R.B.K.keeps R.le) hg e) (by rw [R.L.bl]; exact hbn) ((T.builtins x hn).trans hb) (k g _ μ v s.heap s.toks h (.refl R.le R.mu) (.raw v))) hd
theorem EX.cint {i : Int} {k : Nat} {pos : Pos} (h : P g (.int i) μ) : EX w A env (.Constant (.int i) k pos) g ρ μ P := fun s E Q R c =>
  wpAny_Constant_int (c g _ μ _ s.heap (s.toks + 1) h (.refl R.le R.mu) (.int ..))
theorem EX.cnone {k : Nat} {pos : Pos} (h : P g .none μ) : EX w A env (.Constant .none k pos) g ρ μ P := fun s E Q R c =>
  wpAny_Constant_none (c g _ μ _ s.heap s.toks h (.refl R.le R.mu) .none)
theorem EX.cbool {b : Bool} {k : Nat} {pos : Pos} (h : P g (.bool b) μ) : EX w A env (.Constant (.bool b) k pos) g ρ μ P := fun s E Q R c =>
  wpAny_Constant_bool (c g _ μ _ s.heap s.toks h (.refl R.le R.mu) (.bool b))
theorem EX.cbytes {x : List UInt8} {k : Nat} {pos : Pos} (h : P g (.bytes x) μ) : EX w A env (.Constant (.bytes x) k pos) g ρ μ P := by
  intro s E Q R c
  exact (fun _ _ _ => c g _ μ _ s.heap (s.toks + 1) h (.refl R.le R.mu) (.bytes x _) : wpAny _ _ (mkTextBytes x.toArray) _ _ _)
theorem EX.mono {e : Expr} {P' : Heap → AV → Mu → Prop} (h : EX w A env e g ρ μ P) (k : ∀ g' a μ', P g' a μ' → P' g' a μ') : EX w A env e g ρ μ P' :=
  fun s E Q R c => h s E Q R fun g' a μ' v h' tk p => c g' a μ' v h' tk (k _ _ _ p)
theorem EX.then {e : Expr} {s : Shared} {E : Value → Shared → Prop} {Q : Value → Shared → Prop} {P' : Heap → AV → Mu → Prop} (h : EX w A env e g ρ μ P') (R : Rel w g env ρ μ s.heap)
    (k : ∀ g' a μ' v s', P' g' a μ' → Bk w noF μ g s.heap μ' g' s'.heap → Rel w g' env ρ μ' s'.heap → RV g' a v → (∃ h' tk, s' = { s with heap := h', toks := tk }) → Q v s') : wpAny (model PR w) A (eval e env) Q E s :=
  h s E Q R fun g' a μ' v h' tk p b r => k g' a μ' v _ p b (R.step b) r ⟨h', tk, rfl⟩
noncomputable def OX1 (w : World) (A : Around) (t : Value → Sem Value) (a : AV) (g : Heap) (μ : Mu) (P : Heap → AV → Mu → Prop) : Prop :=
  ∀ (s : Shared) (E : Value → Shared → Prop) (Q : Value → Shared → Prop) (va : Value), Base w g → Le g s.heap → MuRel g μ s.heap → RV g a va →
    (∀ g' c μ' v h' tk, P g' c μ' → Bk w noF μ g s.heap μ' g' h' → RV g' c v → Q v { s with heap := h', toks := tk }) → wpAny (model PR w) A (t va) Q E s
noncomputable def OX2 (w : World) (A : Around) (t : Value → Value → Sem Value) (a b : AV) (g : Heap) (μ : Mu) (P : Heap → AV → Mu → Prop) : Prop :=
  ∀ (s : Shared) (E : Value → Shared → Prop) (Q : Value → Shared → Prop) (va vb : Value), Base w g → Le g s.heap → MuRel g μ s.heap → RV g a va → RV g b vb →
    (∀ g' c μ' v h' tk, P g' c μ' → Bk w noF μ g s.heap μ' g' h' → RV g' c v → Q v { s with heap := h', toks := tk }) → wpAny (model PR w) A (t va vb) Q E s
noncomputable def CX (w : World) (n : Nat) (f : Value) (args : List AV) (g : Heap) (μ : Mu) (P : Heap → AV → Mu → Prop) : Prop :=
  ∀ (A : Around) (s : Shared) (E : Value → Shared → Prop) (Q : Value → Shared → Prop) (vs : List Value), Room A n → Base w g → Le g s.heap → MuRel g μ s.heap → RVs g args vs →
    (∀ g' c μ' v h' tk, P g' c μ' → Bk w noF μ g s.heap μ' g' h' → RV g' c v → Q v { s with heap := h', toks := tk }) → wpAny (model PR w) A (call f vs) Q E s
noncomputable def CKX (w : World) (n : Nat) (f : Value) (args : List AV) (names : List Str) (kargs : List AV) (g : Heap) (μ : Mu) (P : Heap → AV → Mu → Prop) : Prop :=
  ∀ (A : Around) (s : Shared) (E : Value → Shared → Prop) (Q : Value → Shared → Prop) (vs ks : List Value), Room A n → Base w g → Le g s.heap → MuRel g μ s.heap → RVs g args vs → RVs g kargs ks →
    (∀ g' c μ' v h' tk, P g' c μ' → Bk w noF μ g s.heap μ' g' h' → RV g' c v → Q v { s with heap := h', toks := tk }) → wpAny (model PR w) A (call f vs (names.zip ks)) Q E s
theorem CX.mono {n m : Nat} {f : Value} {args : List AV} {P' : Heap → AV → Mu → Prop} (h : CX w n f args g μ P) (hn : n ≤ m) (k : ∀ g' a μ', P g' a μ' → P' g' a μ') : CX w m f args g μ P' :=
  fun A s E Q vs R B L M V c => h A s E Q vs (R.le hn) B L M V fun g' a μ' v h' tk p => c g' a μ' v h' tk (k _ _ _ p)
theorem CX.frame {n : Nat} {f : Value} {args : List AV} {P' : Heap → AV → Mu → Prop} (h : CX w n f args g none P') (k : ∀ g' a, P' g' a none → P g' a μ) (hn : ∀ g' a μ', P' g' a μ' → μ' = none) : CX w n f args g μ P :=
  fun A s E Q vs R B L M V c => h A s E Q vs R B L .nil V fun g' a μ' v h' tk p b r => by
    obtain rfl := hn _ _ _ p
    exact c g' a μ v h' tk (k _ _ p) (b.frame M) r
theorem pure2 {t : Value → Value → Sem Value} {a b c : AV} (h : ∀ (s : Shared) (E : Value → Shared → Prop) (Q : Value → Shared → Prop) va vb g, RV g a va → RV g b vb → (∀ v tk, RV g c v → Q v { s with toks := tk }) → wpAny (model PR w) A (t va vb) Q E s)
    (hP : P g c μ) : OX2 w A t a b g μ P := fun s E Q va vb B le M ra rb k => h s E Q va vb g ra rb fun v tk r => k g c μ v s.heap tk hP (.refl le M) r
theorem pure1 {t : Value → Sem Value} {a c : AV} (h : ∀ (s : Shared) (E : Value → Shared → Prop) (Q : Value → Shared → Prop) va g, RV g a va → (∀ v tk, RV g c v → Q v { s with toks := tk }) → wpAny (model PR w) A (t va) Q E s)
    (hP : P g c μ) : OX1 w A t a g μ P := fun s E Q va B le M ra k => h s E Q va g ra fun v tk r => k g c μ v s.heap tk hP (.refl le M) r
theorem EX.bin {l r : Expr} {op : Operator} {pos : Pos} (h : EX w A env l g ρ μ fun g₁ a μ₁ => EX w A env r g₁ ρ μ₁ fun g₂ b μ₂ => OX2 w A (binaryOp op) a b g₂ μ₂ P) : EX w A env (.BinOp l op r pos) g ρ μ P := by
  intro s E Q R k
  refine wpAny_BinOp (h.then R fun g₁ a μ₁ v₁ s₁ h₁ b₁ R₁ r₁ e₁ => ?_)
  obtain ⟨h', tk, rfl⟩ := e₁
  refine h₁.then R₁ fun g₂ b μ₂ v₂ s₂ h₂ b₂ R₂ r₂ e₂ => ?_
  obtain ⟨h'', tk', rfl⟩ := e₂
  exact h₂ _ _ _ _ _ R₂.B R₂.le R₂.mu (r₁.mono b₂.st.le) r₂ fun g' c μ' v h' tk p b r => k g' c μ' v h' tk p ((b₁.trans b₂).trans b) r
theorem EX.cmp {l r : Expr} {op : CmpOp} {pos : Pos} (h : EX w A env l g ρ μ fun g₁ a μ₁ => EX w A env r g₁ ρ μ₁ fun g₂ b μ₂ => OX2 w A (compareOp op) a b g₂ μ₂ P) (hm : behindInMarks op r = false := by with_unfolding_all rfl) : EX w A env (.Compare l [op] [r] pos) g ρ μ P := by
  intro s E Q R k
  refine wpAny_Compare1 (h.then R fun g₁ a μ₁ v₁ s₁ h₁ b₁ R₁ r₁ e₁ => ?_) hm
  obtain ⟨h', tk, rfl⟩ := e₁
  refine h₁.then R₁ fun g₂ b μ₂ v₂ s₂ h₂ b₂ R₂ r₂ e₂ => ?_
  obtain ⟨h'', tk', rfl⟩ := e₂
  exact h₂ _ _ _ _ _ R₂.B R₂.le R₂.mu (r₁.mono b₂.st.le) r₂ fun g' c μ' v h' tk p b r => k g' c μ' v h' tk p ((b₁.trans b₂).trans b) r
theorem EX.un {x : Expr} {op : UnaryOp} {pos : Pos} (h : EX w A env x g ρ μ fun g₁ a μ₁ => OX1 w A (unaryOp op) a g₁ μ₁ P) : EX w A env (.UnaryOp op x pos) g ρ μ P := by
  intro s E Q R k
  refine wpAny_UnaryOp (h.then R fun g₁ a μ₁ v₁ s₁ h₁ b₁ R₁ r₁ e₁ => ?_)
  obtain ⟨h', tk, rfl⟩ := e₁
  exact h₁ _ _ _ _ R₁.B R₁.le R₁.mu r₁ fun g' c μ' v h' tk p b r => k g' c μ' v h' tk p (b₁.trans b) r
theorem TX.cmp {l r : Expr} {op : CmpOp} {pos : Pos} {P : Heap → Bool → Mu → Prop} (h : EX w A env l g ρ μ fun g₁ a μ₁ => EX w A env r g₁ ρ μ₁ fun g₂ b μ₂ => OX2 w A (compareOp op) a b g₂ μ₂ fun g₃ c μ₃ => ∃ t, c = .bool t ∧ P g₃ t μ₃) (hm : behindInMarks op r = false := by with_unfolding_all rfl) : TX w A env (.Compare l [op] [r] pos) g ρ μ P := by
  intro s E Q R k
  refine wpAny_isTrue_Compare1 (h.then R fun g₁ a μ₁ v₁ s₁ h₁ b₁ R₁ r₁ e₁ => ?_) hm
  obtain ⟨h', tk, rfl⟩ := e₁
  refine h₁.then R₁ fun g₂ b μ₂ v₂ s₂ h₂ b₂ R₂ r₂ e₂ => ?_
  obtain ⟨h'', tk', rfl⟩ := e₂
  refine h₂ _ _ _ _ _ R₂.B R₂.le R₂.mu (r₁.mono b₂.st.le) r₂ fun g' c μ' v h' tk p b r => ?_
  obtain ⟨t, rfl, p⟩ := p
  obtain ⟨_, rfl⟩ := r.inv
  exact wpAny_truthy_bool (k g' t μ' h' tk p ((b₁.trans b₂).trans b))
theorem TX.not {x : Expr} {pos : Pos} {P : Heap → Bool → Mu → Prop} (h : TX w A env x g ρ μ fun g₁ b μ₁ => P g₁ (!b) μ₁) : TX w A env (.UnaryOp .Not x pos) g ρ μ P := fun s E Q R k =>
  wpAny_isTrue_Not (h s E _ R fun g' b μ' h' tk p bk => k g' (!b) μ' h' tk p bk)
noncomputable def TXs (w : World) (A : Around) (env : Env) (op : BoolOp) (es : List Expr) (g : Heap) (ρ : Vars) (μ : Mu) (P : Heap → Bool → Mu → Prop) : Prop :=
  ∀ (s : Shared) (E : Value → Shared → Prop) (Q : Bool → Shared → Prop), Rel w g env ρ μ s.heap →
    (∀ g' b μ' h' tk, P g' b μ' → Bk w noF μ g s.heap μ' g' h' → Q b { s with heap := h', toks := tk }) → wpAny (model PR w) A (allTrue op es env) Q E s
theorem TX.chain {op : BoolOp} {es : List Expr} {pos : Pos} {P : Heap → Bool → Mu → Prop} (h : TXs w A env op es g ρ μ P) : TX w A env (.BoolOp op es pos) g ρ μ P := fun s E Q R k => wpAny_isTrue_BoolOp (h s E Q R k)
theorem TXs.andNil {P : Heap → Bool → Mu → Prop} (h : P g true μ) : TXs w A env .And [] g ρ μ P := fun s E Q R k => wpAny_allTrue_And_nil (k g true μ s.heap s.toks h (.refl R.le R.mu))
theorem TXs.orNil {P : Heap → Bool → Mu → Prop} (h : P g false μ) : TXs w A env .Or [] g ρ μ P := fun s E Q R k => wpAny_allTrue_Or_nil (k g false μ s.heap s.toks h (.refl R.le R.mu))
theorem TXs.and {x : Expr} {rest : List Expr} {P : Heap → Bool → Mu → Prop} (h : TX w A env x g ρ μ fun g₁ b μ₁ => if b = true then TXs w A env .And rest g₁ ρ μ₁ P else P g₁ false μ₁) : TXs w A env .And (x :: rest) g ρ μ P := by
  intro s E Q R k
  refine wpAny_allTrue_And_cons (h s E _ R fun g₁ b μ₁ h₁ tk p bk => ?_)
  cases b with
  | true => simp only [if_true] at p ⊢; exact p _ _ _ (R.step bk) fun g' b' μ' h' tk' p' bk' => k g' b' μ' h' tk' p' (bk.trans bk')
  | false => simp only [Bool.false_eq_true, if_false] at p ⊢; exact k g₁ false μ₁ h₁ tk p bk
theorem TXs.or {x : Expr} {rest : List Expr} {P : Heap → Bool → Mu → Prop} (h : TX w A env x g ρ μ fun g₁ b μ₁ => if b = true then P g₁ true μ₁ else TXs w A env .Or rest g₁ ρ μ₁ P) : TXs w A env .Or (x :: rest) g ρ μ P := by
  intro s E Q R k
  refine wpAny_allTrue_Or_cons (h s E _ R fun g₁ b μ₁ h₁ tk p bk => ?_)
  cases b with
  | false => simp only [Bool.false_eq_true, if_false] at p ⊢; exact p _ _ _ (R.step bk) fun g' b' μ' h' tk' p' bk' => k g' b' μ' h' tk' p' (bk.trans bk')
  | true => simp only [if_true] at p ⊢; exact k g₁ true μ₁ h₁ tk p bk
noncomputable def OT (w : World) (A : Around) (a : AV) (g : Heap) (μ : Mu) (P : Heap → Bool → Mu → Prop) : Prop :=
  ∀ (s : Shared) (E : Value → Shared → Prop) (Q : Bool → Shared → Prop) (va : Value), Base w g → Le g s.heap → MuRel g μ s.heap → RV g a va → (∀ b tk, P g b μ → Q b { s with toks := tk }) → wpAny (model PR w) A (truthy va) Q E s
theorem TX.val {e : Expr} {P : Heap → Bool → Mu → Prop} (h : EX w A env e g ρ μ fun g₁ a μ₁ => OT w A a g₁ μ₁ P) (he : ∀ whole, isTrue e env whole = (do let v ← whole; standAt e.pos; holding [v] (truthy v)) := by intro _; rfl) : TX w A env e g ρ μ P := by
  intro s E Q R k
  refine wpAny_isTrue_value (h.then R fun g₁ a μ₁ v₁ s₁ h₁ b₁ R₁ r₁ e₁ => ?_) (he _)
  obtain ⟨h', tk, rfl⟩ := e₁
  exact h₁ _ _ _ _ R₁.B R₁.le R₁.mu r₁ fun b tk' p => k g₁ b μ₁ h' tk' p b₁
theorem OT.bool {b : Bool} {P : Heap → Bool → Mu → Prop} (h : P g b μ) : OT w A (.bool b) g μ P := fun s E Q va B le M r k => by
  obtain ⟨_, rfl⟩ := r.inv; exact wpAny_truthy_bool (k b s.toks h)
theorem EX.ite {test body orelse : Expr} {pos : Pos} (h : TX w A env test g ρ μ fun g₁ b μ₁ => if b = true then EX w A env body g₁ ρ μ₁ P else EX w A env orelse g₁ ρ μ₁ P) : EX w A env (.IfExp test body orelse pos) g ρ μ P := by
  intro s E Q R k
  refine wpAny_IfExp (h s E _ R fun g₁ b μ₁ h₁ tk p bk => ?_)
  cases b with
  | true => simp only [if_true] at p ⊢; exact p _ _ _ (R.step bk) fun g' b' μ' v h' tk' p' bk' r => k g' b' μ' v h' tk' p' (bk.trans bk') r
  | false => simp only [Bool.false_eq_true, if_false] at p ⊢; exact p _ _ _ (R.step bk) fun g' b' μ' v h' tk' p' bk' r => k g' b' μ' v h' tk' p' (bk.trans bk') r
noncomputable def LX (w : World) (A : Around) (env : Env) (pos : Pos) (es : List Expr) (g : Heap) (ρ : Vars) (μ : Mu) (P : Heap → List AV → Mu → Prop) : Prop :=
  ∀ (s : Shared) (E : Value → Shared → Prop) (Q : List Value → Shared → Prop), Rel w g env ρ μ s.heap →
    (∀ g' as μ' vs h' tk, P g' as μ' → Bk w noF μ g s.heap μ' g' h' → RVs g' as vs → Q vs { s with heap := h', toks := tk }) → wpAny (model PR w) A (spliced (backTo pos (starEach es env))) Q E s
theorem LX.nil {pos : Pos} {P : Heap → List AV → Mu → Prop} (h : P g [] μ) : LX w A env pos [] g ρ μ P := fun s E Q R k => args_nil (k g [] μ [] s.heap s.toks h (.refl R.le R.mu) .nil)
noncomputable abbrev ConsP (w : World) (A : Around) (env : Env) (pos : Pos) (rest : List Expr) (ρ : Vars) (P : Heap → List AV → Mu → Prop) : Heap → AV → Mu → Prop := fun g₁ a μ₁ => LX w A env pos rest g₁ ρ μ₁ fun g₂ as μ₂ => P g₂ (a :: as) μ₂
theorem LX.cons {pos : Pos} {e : Expr} {rest : List Expr} {P : Heap → List AV → Mu → Prop} (h : EX w A env e g ρ μ (ConsP w A env pos rest ρ P)) (he : starEach (e :: rest) env = (false, eval e env) :: starEach rest env := by rfl) : LX w A env pos (e :: rest) g ρ μ P := by
  intro s E Q R k
  refine args_cons (h.then R fun g₁ a μ₁ v₁ s₁ h₁ b₁ R₁ r₁ e₁ => ?_) he
  obtain ⟨h', tk, rfl⟩ := e₁
  exact h₁ _ _ _ R₁ fun g' as μ' vs h' tk p b r => k g' (a :: as) μ' _ h' tk p (b₁.trans b) (.cons (r₁.mono b.st.le) r)
theorem newList_frozen {s : Shared} {E : Value → Shared → Prop} {Q : Value → Shared → Prop} {xs : List AV} {vs : List Value} (le : Le g s.heap) (M : MuRel g μ s.heap) (r : RVs g xs vs) (hsz : vs.length ≤ sizeLine)
    (k : ∀ g' v h' tk, Bk w noF μ g s.heap μ g' h' → RV g' (.list xs) v → Q v { s with heap := h', toks := tk }) : wpAny (model PR w) A (newList vs) Q E s := by
  obtain ⟨g', b, hg, _⟩ := Bk.alloc (w := w) le M { cls := .type "list", data := .seq vs.toArray } rfl
  refine wpAny_newObj_type ?_ (by show vs.toArray.size ≤ sizeLine; rw [List.size_toArray]; exact hsz)
  exact k g' _ _ s.toks b (.list' ⟨_, hg⟩ (r.mono b.st.le))
theorem newTuple_frozen {s : Shared} {E : Value → Shared → Prop} {Q : Value → Shared → Prop} {xs : List AV} {vs : List Value} (le : Le g s.heap) (M : MuRel g μ s.heap) (r : RVs g xs vs) (hsz : vs.length ≤ sizeLine)
    (k : ∀ g' v h' tk, Bk w noF μ g s.heap μ g' h' → RV g' (.tup xs) v → Q v { s with heap := h', toks := tk }) : wpAny (model PR w) A (newTuple vs) Q E s := by
  obtain ⟨g', b, hg, _⟩ := Bk.alloc (w := w) le M { cls := .type "tuple", data := .seq vs.toArray } rfl
  refine wpAny_newObj_type ?_ (by show vs.toArray.size ≤ sizeLine; rw [List.size_toArray]; exact hsz)
  exact k g' _ _ s.toks b (.tup' ⟨_, hg⟩ (r.mono b.st.le))
theorem Bk.newMut {h : Heap} (le : Le g h) (vs : List Value) (xs : List AV) (r : RVs g xs vs) :
    Bk w noF none g h (some (.lst h.objs.size xs)) g (h.push { cls := .type "list", data := .seq vs.toArray }) := by
  refine ⟨⟨.refl _, fun b o e => .inl e, fun b o e _ _ => Heap.get?_push_of_some _ e, (le_push h _).dom, fun b m => ?_⟩, le.trans (le_push h _), .ofLst (le.none (fresh_size h)) ⟨0, Heap.get?_push_size _ rfl⟩ r⟩
  cases m; exact .inr (fresh_size h)
theorem EX.list {es : List Expr} {pos : Pos} (h : LX w A env pos es g ρ μ fun g₁ as μ₁ => as.length ≤ sizeLine ∧ ∀ g₂, Le g₁ g₂ → P g₂ (.list as) μ₁) : EX w A env (.List es pos) g ρ μ P := by
  intro s E Q R k
  refine List_ (h s E _ R fun g₁ as μ₁ vs h₁ tk p bk r => ?_)
  exact newList_frozen bk.le bk.mu r (by rw [r.1]; exact p.1) fun g' v h' tk' bk' r' => k g' _ μ₁ v h' tk' (p.2 g' bk'.st.le) (bk.trans bk') r'
theorem EX.listM {es : List Expr} {pos : Pos} (h : LX w A env pos es g ρ μ fun g₁ as μ₁ => as.length ≤ sizeLine ∧ μ₁ = none ∧ ∀ a, P g₁ (.mlist a) (some (.lst a (as)))) : EX w A env (.List es pos) g ρ μ P := by
  intro s E Q R k
  refine List_ (h s E _ R fun g₁ as μ₁ vs h₁ tk p bk r => ?_)
  obtain ⟨p1, rfl, p2⟩ := p
  refine wpAny_newObj_type ?_ (by show vs.toArray.size ≤ sizeLine; rw [List.size_toArray, r.1]; exact p1)
  exact k g₁ _ _ _ _ tk (p2 _) (bk.trans (Bk.newMut bk.le vs as r)) (.mlist _)
theorem EX.tuple {es : List Expr} {n : Nat} {pos : Pos} (h : LX w A env pos es g ρ μ fun g₁ as μ₁ => as.length ≤ sizeLine ∧ ∀ g₂, Le g₁ g₂ → P g₂ (.tup as) μ₁) : EX w A env (.Tuple es n pos) g ρ μ P := by
  intro s E Q R k
  refine Tuple_ (h s E _ R fun g₁ as μ₁ vs h₁ tk p bk r => ?_)
  exact newTuple_frozen bk.le bk.mu r (by rw [r.1]; exact p.1) fun g' v h' tk' bk' r' => k g' _ μ₁ v h' tk' (p.2 g' bk'.st.le) (bk.trans bk') r'
end
end Mine
set_option tactic.hygienic false
open PySem PySem.W PySem.Calls PyProof.Rows
set_option Elab.async false
set_option maxRecDepth 100000
set_option linter.unusedVariables false
namespace Mine
section
variable {w : World} {A : Around} {env : Env} {g : Heap} {ρ : Vars} {μ : Mu} {P : Heap → Fl → Vars → Mu → Prop}
theorem fn_hp (h : env.scope.kind = .function) : (env.scope.kind == .class || (env.scope.kind == .module && env.locals != env.globals)) = false := by rw [h]; rfl
theorem sameBut_dom {a : Addr} {h h' : Heap} (hs : Heap.SameBut a h h') (ha : ∃ o, h'.get? a = some o) : ∀ b o, h.get? b = some o → ∃ o', h'.get? b = some o' := fun b o e => by
  by_cases q : b = a
  · exact q ▸ ha
  · exact ⟨o, (hs.2 b q).trans e⟩
theorem store_loc0 {x : Str} {a : AV} {v : Value} {s : Shared} {E : Value → Shared → Prop} {Q : Unit → Shared → Prop} (R : Rel w g env ρ μ s.heap) (hk : env.kindOf x = some .local) (r : RV g a v)
    (k : ∀ h' tk, Bk w (· = env.locals) μ g s.heap μ g h' → Rel w g env (setv ρ x a) μ h' → Q () { s with heap := h', toks := tk }) : wpAny (model PR w) A (storeName env x v) Q E s := by
  obtain ⟨m, hn, q⟩ := R.L.ns
  refine wpAny_storeName_local hk hn (fun h' hn' hs => ?_) (fn_hp R.L.fn)
  have gle : Le g h' := fun b o e => (hs.2 b (by rintro rfl; rw [R.L.off] at e; cases e)).trans (R.le b o e)
  have dm : ∀ b o, s.heap.get? b = some o → ∃ o', h'.get? b = some o' := sameBut_dom hs (let ⟨o, _, _, e, _⟩ := hn'; ⟨o, e⟩)
  have mu' : MuRel g μ h' := R.mu.keep (.refl _) (fun b m o e => (hs.2 b (fun z => (R.muOff b m).1 (.inl z))).trans e) R.mu.off
  have st : Stp (· = env.locals) μ g s.heap μ g h' := ⟨.refl _, fun _ _ e => .inl e, fun b o e f _ => (hs.2 b fun z => f z).trans e, dm, fun _ e => .inl e⟩
  refine k h' _ ⟨st, gle, mu'⟩ ⟨R.B, gle, ?_, mu', R.muOff⟩
  refine ⟨R.L.fn, R.L.gl, R.L.bl, ⟨_, hn', fun y b h1 h2 => ?_⟩, R.L.off, fun y b h1 h2 => ?_, fun y c h1 => ?_, R.L.apart⟩
  · rw [setv_lookup] at h1
    by_cases e : y = x
    · rw [if_pos e] at h1; cases h1; exact ⟨v, if_pos e, r⟩
    · rw [if_neg e] at h1; obtain ⟨u, h3, h4⟩ := q y b h1 h2; exact ⟨u, (if_neg e).trans h3, h4⟩
  · rw [setv_lookup] at h1
    by_cases e : y = x
    · subst e; rw [hk] at h2; rcases h2 with h2 | h2 <;> cases h2
    · rw [if_neg e] at h1
      obtain ⟨c, u, h3, h4, h5⟩ := R.L.cell y b h1 h2
      exact ⟨c, u, h3, h4.sameBut hs (R.L.cells y c h3).2.1, h5⟩
  · obtain ⟨⟨u, h2⟩, h3, h4⟩ := R.L.cells y c h1
    exact ⟨⟨u, h2.sameBut hs h3⟩, h3, h4⟩
theorem store_loc {x : Str} {a : AV} {v : Value} {s : Shared} {E : Value → Shared → Prop} {Q : Unit → Shared → Prop} (R : Rel w g env ρ μ s.heap) (hk : env.kindOf x = some .local) (r : RV g a v)
    (k : ∀ h' tk, Bk w (own env) μ g s.heap μ g h' → Rel w g env (setv ρ x a) μ h' → Q () { s with heap := h', toks := tk }) : wpAny (model PR w) A (storeName env x v) Q E s :=
  store_loc0 R hk r fun h' tk b R' => k h' tk ⟨⟨b.st.le, b.st.fresh, fun c o e f m => b.st.kp c o e (fun z => f (.inl z)) m, b.st.dom, b.st.mu⟩, b.le, b.mu⟩ R'
theorem store_cell {x : Str} {a : AV} {v : Value} {s : Shared} {E : Value → Shared → Prop} {Q : Unit → Shared → Prop} {c : Addr} (R : Rel w g env ρ μ s.heap) (hk : env.kindOf x = some .cell) (hc : env.cells.lookup x = some c) (r : RV g a v)
    (k : ∀ h' tk, Bk w (own env) μ g s.heap μ g h' → Rel w g env (setv ρ x a) μ h' → Q () { s with heap := h', toks := tk }) : wpAny (model PR w) A (storeName env x v) Q E s := by
  obtain ⟨⟨v₀, hv₀⟩, hcL, hcg⟩ := R.L.cells x c hc
  have hcg := hcg hk
  refine wpAny_storeName_cell R.L.fn hk hc hv₀ fun h' hc' hs => ?_
  have gle : Le g h' := fun b o e => (hs.2 b (by rintro rfl; rw [hcg] at e; cases e)).trans (R.le b o e)
  have dm : ∀ b o, s.heap.get? b = some o → ∃ o', h'.get? b = some o' := sameBut_dom hs (let ⟨o, e, _⟩ := hc'; ⟨o, e⟩)
  have mu' : MuRel g μ h' := R.mu.keep (.refl _) (fun b m o e => (hs.2 b (fun z => (R.muOff b m).2 x (z ▸ hc))).trans e) R.mu.off
  have st : Stp (own env) μ g s.heap μ g h' := ⟨.refl _, fun _ _ e => .inl e, fun b o e f _ => (hs.2 b fun z => f (.inr ⟨x, hk, z ▸ hc⟩)).trans e, dm, fun _ e => .inl e⟩
  refine k h' s.toks ⟨st, gle, mu'⟩ ⟨R.B, gle, ?_, mu', R.muOff⟩
  obtain ⟨m, hn, q⟩ := R.L.ns
  refine ⟨R.L.fn, R.L.gl, R.L.bl, ⟨m, hn.sameBut hs (Ne.symm hcL), fun y b h1 h2 => ?_⟩, R.L.off, fun y b h1 h2 => ?_, fun y d h1 => ?_, R.L.apart⟩
  · rw [setv_lookup] at h1
    by_cases e : y = x
    · subst e; rw [hk] at h2; cases h2
    · rw [if_neg e] at h1; exact q y b h1 h2
  · rw [setv_lookup] at h1
    by_cases e : y = x
    · rw [if_pos e] at h1; cases h1; subst e; exact ⟨c, v, hc, hc', r⟩
    · rw [if_neg e] at h1
      obtain ⟨d, u, h3, h4, h5⟩ := R.L.cell y b h1 h2
      exact ⟨d, u, h3, h4.sameBut hs (fun z => e (R.L.apart y x c (z ▸ h3) hc)), h5⟩
  · obtain ⟨⟨u, h2⟩, h3, h4⟩ := R.L.cells y d h1
    by_cases e : d = c
    · subst e; exact ⟨⟨_, hc'⟩, h3, h4⟩
    · exact ⟨⟨u, h2.sameBut hs e⟩, h3, h4⟩
noncomputable def Bindable (env : Env) (x : Str) : Prop := env.kindOf x = some .local ∨ (env.kindOf x = some .cell ∧ (env.cells.lookup x).isSome = true)
theorem store_any {x : Str} {a : AV} {v : Value} {s : Shared} {E : Value → Shared → Prop} {Q : Unit → Shared → Prop} (R : Rel w g env ρ μ s.heap) (hk : Bindable env x) (r : RV g a v)
    (k : ∀ h' tk, Bk w (own env) μ g s.heap μ g h' → Rel w g env (setv ρ x a) μ h' → Q () { s with heap := h', toks := tk }) : wpAny (model PR w) A (storeName env x v) Q E s := by
  rcases hk with hk | ⟨hk, hc⟩
  · exact store_loc R hk r k
  · obtain ⟨c, hc⟩ := Option.isSome_iff_exists.mp hc
    exact store_cell R hk hc r k
noncomputable def AsX (w : World) (A : Around) (env : Env) (target : Expr) (v : AV) (g : Heap) (ρ : Vars) (μ : Mu) (ρ' : Vars) : Prop :=
  ∀ (s : Shared) (E : Value → Shared → Prop) (Q : Unit → Shared → Prop) (va : Value), Rel w g env ρ μ s.heap → RV g v va →
    (∀ h' tk, Bk w (own env) μ g s.heap μ g h' → Rel w g env ρ' μ h' → Q () { s with heap := h', toks := tk }) → wpAny (model PR w) A (assign target env va) Q E s
theorem AsX.name {x : Str} {p : Pos} {v : AV} (hk : Bindable env x) : AsX w A env (.Name x p) v g ρ μ (setv ρ x v) := fun s E Q va R r k => wpAny_assign_Name (store_any R hk r k)
noncomputable def AsXs (w : World) (A : Around) (env : Env) (targets : List Expr) (vs : List AV) (g : Heap) (ρ : Vars) (μ : Mu) (ρ' : Vars) : Prop :=
  ∀ (s : Shared) (E : Value → Shared → Prop) (Q : Unit → Shared → Prop) (vas : List Value), Rel w g env ρ μ s.heap → RVs g vs vas →
    (∀ h' tk, Bk w (own env) μ g s.heap μ g h' → Rel w g env ρ' μ h' → Q () { s with heap := h', toks := tk }) → wpAny (model PR w) A (assignInOrder ((assignEach targets env).map (·.2)) vas) Q E s
theorem AsXs.nil : AsXs w A env [] [] g ρ μ ρ := fun s E Q vas R r k => by
  rw [r.unnil]
  exact assignInOrder_nil (k s.heap s.toks (.refl R.le R.mu) R)
theorem AsXs.cons {t : Expr} {ts : List Expr} {v : AV} {vs : List AV} {ρ₁ ρ₂ : Vars} (h : AsX w A env t v g ρ μ ρ₁) (hs : AsXs w A env ts vs g ρ₁ μ ρ₂) (he : (assignEach (t :: ts) env).map (·.2) = assign t env :: (assignEach ts env).map (·.2) := by rfl) : AsXs w A env (t :: ts) (v :: vs) g ρ μ ρ₂ := by
  intro s E Q vas R r k
  obtain ⟨va, vas', rfl, r1, r2⟩ := r.uncons
  rw [he]
  refine assignInOrder_cons (h s E _ va R r1 fun h₁ tk b₁ R₁ => ?_)
  exact hs _ _ _ _ R₁ r2 fun h₂ tk' b₂ R₂ => k h₂ tk' (b₁.trans b₂) R₂
theorem AsX.tup {elts : List Expr} {n : Nat} {p : Pos} {vs : List AV} {ρ' : Vars} (hh : A.handled = none) (h : AsXs w A env elts vs g ρ μ ρ') (hn : (assignEach elts env).length = vs.length) (hstar : (assignEach elts env).findIdx? (·.1) = none) :
    AsX w A env (.Tuple elts n p) (.tup vs) g ρ μ ρ' := by
  intro s E Q va R r k
  obtain ⟨a, us, rfl, ⟨ep, hT⟩, r⟩ := r.untup
  refine assign_Tuple_tuple (items := us.toArray) hh ⟨_, R.le _ _ hT, rfl, _, rfl⟩ (by rw [hn, List.size_toArray, r.1]) hstar fun h' hx => ?_
  have kp : Le s.heap h' := fun b o e => hx b o (Nat.ne_of_lt (Heap.lt_size e)) e
  have b : Bk w noF μ g s.heap μ g { s with heap := h' }.heap := ⟨⟨.refl _, fun _ _ e => .inl e, fun b o e _ _ => kp b o e, kp.dom, fun _ e => .inl e⟩, R.le.trans kp, R.mu.keep (.refl _) (fun b _ o e => kp b o e) R.mu.off⟩
  exact h _ _ _ _ (R.step b) r fun h₂ tk' b₂ R₂ => k h₂ tk' (b.weak.trans b₂) R₂
end
end Mine
set_option tactic.hygienic false
open PySem PySem.W PySem.Calls PyProof.Rows
set_option Elab.async false
set_option maxRecDepth 100000
set_option linter.unusedVariables false
namespace Mine
section
variable {w : World} {A : Around} {env : Env} {g : Heap} {ρ : Vars} {μ : Mu} {P : Heap → Fl → Vars → Mu → Prop}
theorem SX.nil (h : P g .next ρ μ) : SX w A env [] g ρ μ P := fun s E Q R k => wpAny_execs_nil (k g .next ρ μ .next s.heap s.toks h (.refl R.le R.mu) R .next)
noncomputable abbrev Then (w : World) (A : Around) (env : Env) (rest : List Stmt) (P : Heap → Fl → Vars → Mu → Prop) : Heap → Fl → Vars → Mu → Prop := fun g f ρ μ => match f with | .next => SX w A env rest g ρ μ P | f => P g f ρ μ
noncomputable abbrev Turn (N : Heap → Vars → Mu → Prop) (P : Heap → Fl → Vars → Mu → Prop) : Heap → Fl → Vars → Mu → Prop := fun g f ρ μ => match f with | .next | .cont => N g ρ μ | .brk => P g .next ρ μ | .ret a => P g (.ret a) ρ μ
theorem SX.cons {st : Stmt} {rest : List Stmt} (h : S1 w A env st g ρ μ (Then w A env rest P)) : SX w A env (st :: rest) g ρ μ P := by
  intro s E Q R k
  refine wpAny_execs_cons (h s E _ R fun g₁ f ρ₁ μ₁ fl h₁ tk p b R₁ r => ?_)
  cases r with
  | next => exact p _ _ _ R₁ fun g' f ρ' μ' fl h' tk' p' b' R' r' => k g' f ρ' μ' fl h' tk' p' (b.trans b') R' r'
  | brk => exact k g₁ _ ρ₁ μ₁ _ h₁ tk p b R₁ .brk
  | cont => exact k g₁ _ ρ₁ μ₁ _ h₁ tk p b R₁ .cont
  | ret r => exact k g₁ _ ρ₁ μ₁ _ h₁ tk p b R₁ (.ret r)
theorem SX.mono {ss : List Stmt} {P' : Heap → Fl → Vars → Mu → Prop} (h : SX w A env ss g ρ μ P) (k : ∀ g' f ρ' μ', P g' f ρ' μ' → P' g' f ρ' μ') : SX w A env ss g ρ μ P' :=
  fun s E Q R c => h s E Q R fun g' f ρ' μ' fl h' tk p => c g' f ρ' μ' fl h' tk (k _ _ _ _ p)
theorem S1.mono {st : Stmt} {P' : Heap → Fl → Vars → Mu → Prop} (h : S1 w A env st g ρ μ P) (k : ∀ g' f ρ' μ', P g' f ρ' μ' → P' g' f ρ' μ') : S1 w A env st g ρ μ P' :=
  fun s E Q R c => h s E Q R fun g' f ρ' μ' fl h' tk p => c g' f ρ' μ' fl h' tk (k _ _ _ _ p)
noncomputable abbrev Asg (P : Heap → Fl → Vars → Mu → Prop) (ρ : Vars) (x : Str) : Heap → AV → Mu → Prop := fun g₁ a μ₁ => P g₁ .next (setv ρ x a) μ₁
theorem S1.assign {x : Str} {p pos : Pos} {value : Expr} (h : EX w A env value g ρ μ (Asg P ρ x)) (hk : Bindable env x) (hs : swapsWith value (some (.Name x p)) pos.line env = pure false := by rfl) : S1 w A env (.Assign [.Name x p] value pos) g ρ μ P := by
  intro s E Q R k
  refine wpAny_Assign_Name (h.then R fun g₁ a μ₁ v₁ s₁ h₁ b₁ R₁ r₁ e₁ => ?_) hs
  obtain ⟨h', tk, rfl⟩ := e₁
  exact store_any R₁ hk r₁ fun h₂ tk₂ b₂ R₂ => k g₁ .next _ μ₁ .next h₂ tk₂ h₁ (b₁.weak.trans b₂) R₂ .next
theorem S1.assignT {elts : List Expr} {n : Nat} {tp pos : Pos} {value : Expr} {ρ' : Vars} (h : EX w A env value g ρ μ fun g₁ a μ₁ => ∃ vs ρ', a = .tup vs ∧ AsX w A env (.Tuple elts n tp) (.tup vs) g₁ ρ μ₁ ρ' ∧ P g₁ .next ρ' μ₁)
    (hs : swapsWithSole [.Tuple elts n tp] value pos.line env = pure false := by rfl) (hw : swappedStores [.Tuple elts n tp] value env = pure none := by rfl) : S1 w A env (.Assign [.Tuple elts n tp] value pos) g ρ μ P := by
  intro s E Q R k
  refine Assign_Tuple (h.then R fun g₁ a μ₁ v₁ s₁ h₁ b₁ R₁ r₁ e₁ => ?_) hs hw
  obtain ⟨h', tk, rfl⟩ := e₁
  obtain ⟨vs, ρ', rfl, h2, h3⟩ := h₁
  exact h2 _ _ _ _ R₁ r₁ fun h₂ tk₂ b₂ R₂ => k g₁ .next _ μ₁ .next h₂ tk₂ h3 (b₁.weak.trans b₂) R₂ .next
theorem RVs.two {g : Heap} {a b : AV} {vs : List Value} (h : RVs g [a, b] vs) : ∃ v u, vs = [v, u] ∧ RV g a v ∧ RV g b u := by
  obtain ⟨v, r, rfl, h1, h2⟩ := h.uncons
  obtain ⟨u, r', rfl, h3, h4⟩ := h2.uncons
  rw [h4.unnil]
  exact ⟨v, u, rfl, h1, h3⟩
theorem S1.assignT2 {x y : Str} {elts : List Expr} {n : Nat} {tp pos : Pos} {value : Expr} (h : EX w A env value g ρ μ fun g₁ a μ₁ => ∃ v u, a = .tup [v, u] ∧ P g₁ .next (setv (setv ρ y u) x v) μ₁) (hh : A.handled = none)
    (hx : Bindable env x) (hy : Bindable env y) (hs : swapsWithSole [.Tuple elts n tp] value pos.line env = pure false := by rfl) (hw : swappedStores [.Tuple elts n tp] value env = pure (some [x, y]) := by rfl) : S1 w A env (.Assign [.Tuple elts n tp] value pos) g ρ μ P := by
  intro s E Q R k
  refine Assign_Tuple_swapped (h.then R fun g₁ a μ₁ v₁ s₁ h₁ b₁ R₁ r₁ e₁ => ?_) hs hw
  obtain ⟨h', tk, rfl⟩ := e₁
  obtain ⟨v, u, rfl, h3⟩ := h₁
  obtain ⟨t, us, rfl, ⟨ep, hT⟩, r⟩ := r₁.untup
  obtain ⟨va, ua, rfl, ra, rb⟩ := r.two
  refine unpackItems_tuple (items := #[va, ua]) hh ⟨_, R₁.le _ _ hT, rfl, _, rfl⟩ fun h₂ hx₂ => ?_
  have kp : Le h' h₂ := fun b o e => hx₂ b o (Nat.ne_of_lt (Heap.lt_size e)) e
  have b : Bk w noF μ₁ g₁ h' μ₁ g₁ h₂ := ⟨⟨.refl _, fun _ _ e => .inl e, fun b o e _ _ => kp b o e, kp.dom, fun _ e => .inl e⟩, R₁.le.trans kp, R₁.mu.keep (.refl _) (fun b _ o e => kp b o e) R₁.mu.off⟩
  have R₂ := R₁.step b
  show wpAny _ _ (assignInOrder [bindName env y, bindName env x] [ua, va]) _ _ _
  refine assignInOrder_cons (wpAny_bindName (store_any (s := { s with heap := h₂, toks := tk }) R₂ hy rb fun h₃ tk₃ b₃ R₃ => ?_))
  refine assignInOrder_cons (wpAny_bindName (store_any (s := { s with heap := h₃, toks := tk₃ }) R₃ hx ra fun h₄ tk₄ b₄ R₄ => assignInOrder_nil ?_))
  exact k g₁ .next _ μ₁ .next h₄ tk₄ h3 (((b₁.trans b).weak.trans b₃).trans b₄) R₄ .next
theorem Bk.turn {h : Heap} {ad : Addr} {xs xs' : List AV} {vs vs' : List Value} {ep ep' : Nat} {f : Array Value → Array Value} (le : Le g h) (m : MuRel g (some (.lst ad (xs))) h)
    (ho : h.get? ad = some { cls := .type "list", dict := none, data := .seq vs.toArray ep, slots := #[] })
    (e : Obj.mapSeq f { cls := .type "list", dict := none, data := .seq vs.toArray ep, slots := #[] } = { cls := .type "list", dict := none, data := .seq vs'.toArray ep', slots := #[] })
    (r : RVs g xs' vs') : Bk w noF (some (.lst ad (xs))) g h (some (.lst ad (xs'))) g (h.update ad (Obj.mapSeq f)) := by
  obtain ⟨m1, _⟩ := m.lst
  have hs : Heap.SameBut ad h (h.update ad (Obj.mapSeq f)) := Heap.SameBut.update ..
  have hn : (h.update ad (Obj.mapSeq f)).get? ad = some { cls := .type "list", dict := none, data := .seq vs'.toArray ep', slots := #[] } := by
    rw [Heap.get?_update_self _ ho (by rw [e]; rfl), e]
  have gle : Le g (h.update ad (Obj.mapSeq f)) := fun b o q => (hs.2 b (by rintro rfl; rw [m1] at q; cases q)).trans (le b o q)
  exact ⟨⟨.refl _, fun _ _ q => .inl q, fun b o q _ nm => (hs.2 b fun z => nm z).trans q, sameBut_dom hs ⟨_, hn⟩, fun b q => .inl q⟩, gle, .ofLst m1 ⟨ep', hn⟩ r⟩
theorem S1.setitem {o i value : Expr} {p pos : Pos} {P : Heap → Fl → Vars → Mu → Prop} (h : EX w A env value g ρ μ fun g₁ a μ₁ => EX w A env o g₁ ρ μ₁ fun g₂ l μ₂ => EX w A env i g₂ ρ μ₂ fun g₃ k μ₃ =>
      ∃ ad xs n, l = .mlist ad ∧ k = .int n ∧ μ₃ = some (.lst ad (xs)) ∧ 0 ≤ n ∧ n < xs.length ∧ xs.length ≤ 2 ^ 24 ∧ P g₃ .next ρ (some (.lst ad (xs.set n.toNat a))))
    (hs : swapsWith value (some (.Subscript o i p)) pos.line env = pure false := by rfl) : S1 w A env (.Assign [.Subscript o i p] value pos) g ρ μ P := by
  intro s E Q R k
  refine wpAny_Assign_Subscript (h.then R fun g₁ a μ₁ v₁ s₁ h₁ b₁ R₁ r₁ e₁ => ?_) hs
  obtain ⟨h', tk, rfl⟩ := e₁
  refine h₁.then R₁ fun g₂ l μ₂ v₂ s₂ h₂ b₂ R₂ r₂ e₂ => ?_
  obtain ⟨h'', tk', rfl⟩ := e₂
  refine h₂.then R₂ fun g₃ l μ₃ v₃ s₃ h₃ b₃ R₃ r₃ e₃ => ?_
  obtain ⟨h₃', tk₃, rfl⟩ := e₃
  obtain ⟨ad, xs, n, rfl, rfl, rfl, hn0, hn1, hsz, p⟩ := h₃
  obtain ⟨_, rfl⟩ := r₂.inv; obtain ⟨_, rfl⟩ := r₃.inv
  obtain ⟨m1, vs, ⟨ep, m2⟩, m3⟩ := R₃.mu.lst
  have ra : RV g₃ a v₁ := (r₁.mono b₂.st.le).mono b₃.st.le
  refine ki_setAt (n := ep) (items := vs.toArray) m2 hn0 (by omega) (by rw [List.size_toArray, m3.1]; exact hn1) ?_
  have b := Bk.turn (w := w) (vs' := vs.set n.toNat v₁) (ep' := ep) (f := (·.setIfInBounds n.toNat v₁)) R₃.le R₃.mu m2 (by simp [Obj.mapSeq]) (m3.set ra)
  exact k g₃ .next ρ _ .next _ tk₃ p (((b₁.trans b₂).trans b₃).trans b).weak (R₃.step b) .next
theorem S1.expr {e : Expr} {pos : Pos} (h : EX w A env e g ρ μ fun g₁ a μ₁ => a = .none ∧ P g₁ .next ρ μ₁) (hi : interactive env = false := by rfl) (hs : swapsWith e none pos.line env = pure false := by rfl) : S1 w A env (.Expr e pos) g ρ μ P := by
  intro s E Q R k
  refine wpAny_Expr (h.then R fun g₁ a μ₁ v₁ s₁ h₁ b₁ R₁ r₁ e₁ => ?_) hi hs
  obtain ⟨h', tk, rfl⟩ := e₁
  obtain ⟨rfl, p⟩ := h₁
  obtain ⟨_, rfl⟩ := r₁.inv
  exact k g₁ .next ρ μ₁ .next h' tk p b₁.weak R₁ .next
theorem S1.ite {test : Expr} {body orelse : List Stmt} {pos : Pos} (h : TX w A env test g ρ μ fun g₁ b μ₁ => if b = true then SX w A env body g₁ ρ μ₁ P else SX w A env orelse g₁ ρ μ₁ P) : S1 w A env (.If test body orelse pos) g ρ μ P := by
  intro s E Q R k
  refine wpAny_If (h s E _ R fun g₁ b μ₁ h₁ tk p bk => ?_)
  cases b with
  | true => simp only [if_true] at p ⊢; exact p _ _ _ (R.step bk) fun g' f ρ' μ' fl h' tk' p' b' R' r' => k g' f ρ' μ' fl h' tk' p' (bk.weak.trans b') R' r'
  | false => simp only [Bool.false_eq_true, if_false] at p ⊢; exact p _ _ _ (R.step bk) fun g' f ρ' μ' fl h' tk' p' b' R' r' => k g' f ρ' μ' fl h' tk' p' (bk.weak.trans b') R' r'
theorem S1.ret {e : Expr} {pos : Pos} (h : EX w A env e g ρ μ fun g₁ a μ₁ => P g₁ (.ret a) ρ μ₁) : S1 w A env (.Return (some e) pos) g ρ μ P := by
  intro s E Q R k
  refine wpAny_Return_some (h.then R fun g₁ a μ₁ v₁ s₁ h₁ b₁ R₁ r₁ e₁ => ?_)
  obtain ⟨h', tk, rfl⟩ := e₁
  exact k g₁ _ ρ μ₁ _ h' tk h₁ b₁.weak R₁ (.ret r₁)
theorem S1.brk {pos : Pos} (h : P g .brk ρ μ) : S1 w A env (.Break pos) g ρ μ P := fun s E Q R k => wpAny_Break (k g .brk ρ μ .brk s.heap s.toks h (.refl R.le R.mu) R .brk)
theorem S1.cont {pos : Pos} (h : P g .cont ρ μ) : S1 w A env (.Continue pos) g ρ μ P := fun s E Q R k => wpAny_Continue (k g .cont ρ μ .cont s.heap s.toks h (.refl R.le R.mu) R .cont)
theorem S1.pass {pos : Pos} (h : P g .next ρ μ) : S1 w A env (.Pass pos) g ρ μ P := fun s E Q R k => wpAny_Pass (k g .next ρ μ .next s.heap s.toks h (.refl R.le R.mu) R .next)
theorem S1.while {test : Expr} {body : List Stmt} {pos : Pos} (I : Nat → Heap → Vars → Mu → Prop)
    (turn : ∀ n g ρ μ, I n g ρ μ → TX w A env test g ρ μ fun g₁ b μ₁ => if b = true then SX w A env body g₁ ρ μ₁ (Turn (fun g₂ ρ₂ μ₂ => ∃ m, m < n ∧ I m g₂ ρ₂ μ₂) P) else P g₁ .next ρ μ₁)
    (n : Nat) (h : I n g ρ μ) : S1 w A env (.While test body [] pos) g ρ μ P := by
  intro s E Q R k
  refine wpAny_While (codeAny_whileLoop (fun n s' => ∃ g' ρ' μ' h' tk, s' = { s with heap := h', toks := tk } ∧ I n g' ρ' μ' ∧ Bk w (own env) μ g s.heap μ' g' h' ∧ Rel w g' env ρ' μ' h') ?_ n ⟨g, ρ, μ, s.heap, s.toks, rfl, h, .refl R.le R.mu, R⟩)
  rintro n s' ⟨g', ρ', μ', h', tk, rfl, hI, bk, R'⟩
  refine turn n g' ρ' μ' hI _ _ _ R' fun g₁ b μ₁ h₁ tk₁ p b₁ => ?_
  have R₁ := R'.step b₁
  cases b with
  | false =>
    simp only [Bool.false_eq_true, if_false] at p ⊢
    exact wpAny_execs_nil (k g₁ .next ρ' μ₁ .next h₁ tk₁ p (bk.trans b₁.weak) R₁ .next)
  | true =>
    simp only [if_true] at p ⊢
    refine p _ _ _ R₁ fun g₂ f ρ₂ μ₂ fl h₂ tk₂ p₂ b₂ R₂ r₂ => ?_
    have b₃ := (bk.trans b₁.weak).trans b₂
    cases r₂ with
    | next => obtain ⟨m, hm, p₂⟩ := p₂; exact ⟨m, hm, g₂, ρ₂, μ₂, h₂, tk₂, rfl, p₂, b₃, R₂⟩
    | cont => obtain ⟨m, hm, p₂⟩ := p₂; exact ⟨m, hm, g₂, ρ₂, μ₂, h₂, tk₂, rfl, p₂, b₃, R₂⟩
    | brk => exact k g₂ .next ρ₂ μ₂ .next h₂ tk₂ p₂ b₃ R₂ .next
    | ret r => exact k g₂ _ ρ₂ μ₂ _ h₂ tk₂ p₂ b₃ R₂ (.ret r)
noncomputable def PlainIt (h : Heap) (I : Addr) : Prop := ∃ o n, h.get? I = some o ∧ o.cls = .type n ∧ (["enumerate", "zip", "dict_itemiterator", "dict_reverseitemiterator", "odict_iterator", "itertools.zip_longest", "itertools.pairwise"].contains n) = false
theorem ltg_plain {w : World} {A : Around} {E : Value → Shared → Prop} {s : Shared} {target : Expr} {I : Addr} {v : Value} {Q : Unit → Shared → Prop} (hp : PlainIt s.heap I) (q : Q () s) : wpAny (model PR w) A (letOwnedTupleGo target (.ref I) v) Q E s := by
  obtain ⟨o, n, ho, hc, hn⟩ := hp
  have main : ∀ a, wpAny (model PR w) A (do
      let o ← load I
      match o.cls, o.data with
      | .type n, .fields vs =>
        if (["enumerate", "zip", "dict_itemiterator", "dict_reverseitemiterator", "odict_iterator", "itertools.zip_longest", "itertools.pairwise"].contains n && vs[0]? == some (rawInt a)) = true then do
          rule "for.unpacks-the-owned-tuple"
          updateField I 0 .none
        else pure ()
      | _, _ => pure ()) Q E s := fun a => by
    refine wpAny_bind (wpAny_load ho ?_)
    rw [hc]
    split
    · rename_i h1 h2
      cases h1
      rw [if_neg (by rw [hn, Bool.false_and]; decide)]
      exact wpAny_pure q
    · exact wpAny_pure q
  unfold letOwnedTupleGo
  cases target <;> first | exact wpAny_pure q | (cases v <;> first | exact wpAny_pure q | exact main _)
noncomputable def Src (w : World) (A : Around) (a : AV) (xs : List AV) : Prop :=
  ∀ (g : Heap) (s : Shared) (E : Value → Shared → Prop) (Q : Value → Shared → Prop) (va : Value), Base w g → Le g s.heap → RV g a va →
    (∀ (I : Addr) (wr fp : List Addr) (Pv : Nat → Value → Prop) (St : Nat → Heap → Prop) (h' : Heap), (∀ b ∈ wr, s.heap.get? b = none) → (∀ b ∈ fp, b ∈ wr ∨ (g.get? b).isSome = true) → Walks PR w A I fp wr xs.length Pv St →
      (∀ i v, Pv i v → ∃ x, xs[i]? = some x ∧ RV g x v) → (∀ i h, St i h → PlainIt h I ∧ ∀ b ∈ wr, ∃ o, h.get? b = some o) → St 0 h' → Le s.heap h' →
      Q (.ref I) { s with heap := h' }) → wpAny (model PR w) A (pyIter va) Q E s
structure Aside (wr : List Addr) (env : Env) (μ : Mu) (g h₀ : Heap) : Prop where
  g : ∀ b ∈ wr, g.get? b = none
  own : ∀ b ∈ wr, ¬ own env b
  cells : ∀ b ∈ wr, ∀ x, env.cells.lookup x ≠ some b
  mu : ∀ b ∈ wr, ¬ mad μ b
  h₀ : ∀ b ∈ wr, h₀.get? b = none
theorem Aside.start {wr : List Addr} {h : Heap} (R : Rel w g env ρ μ h) (hwr : ∀ b ∈ wr, h.get? b = none) : Aside wr env μ g h where
  g := fun b hb => R.le.none (hwr b hb)
  own := fun b hb => by
    have hn := hwr b hb
    rintro (rfl | ⟨y, _, hy⟩)
    · obtain ⟨o, e⟩ := R.L.there; rw [hn] at e; cases e
    · obtain ⟨⟨v, o, h2, _⟩, _⟩ := R.L.cells y b hy; rw [hn] at h2; cases h2
  cells := fun b hb y hy => by
    obtain ⟨⟨v, o, h2, _⟩, _⟩ := R.L.cells y b hy; rw [hwr b hb] at h2; cases h2
  mu := fun b hb => by
    intro m
    obtain ⟨o, e⟩ := R.mu.there b m
    rw [hwr b hb] at e; cases e
  h₀ := hwr
theorem Aside.bk {wr : List Addr} {μ₀ : Mu} {g₀ h₀ h h' : Heap} {Fx : Addr → Prop} (a : Aside wr env μ g h₀) (b : Bk w Fx μ₀ g₀ h₀ μ g h) (k : ∀ b o, b ∉ wr → h.get? b = some o → h'.get? b = some o) : Bk w Fx μ₀ g₀ h₀ μ g h' := by
  refine ⟨⟨b.st.le, b.st.fresh, fun c o e f m => k c o (fun q => by rw [a.h₀ c q] at e; cases e) (b.st.kp c o e f m), fun c o e => ?_, b.st.mu⟩, fun c o e => k c o (fun q => by rw [a.g c q] at e; cases e) (b.le c o e), b.mu.keep (.refl _) (fun c m o e => k c o (fun q => a.mu c q m) e) b.mu.off⟩
  obtain ⟨o', e'⟩ := b.st.dom c o e
  exact ⟨o', k c o' (fun q => by rw [a.h₀ c q] at e; cases e) e'⟩
theorem Aside.rel {wr : List Addr} {h₀ h h' : Heap} (a : Aside wr env μ g h₀) (R : Rel w g env ρ μ h) (k : ∀ b o, b ∉ wr → h.get? b = some o → h'.get? b = some o) : Rel w g env ρ μ h' where
  B := R.B
  le := fun c o e => k c o (fun q => by rw [a.g c q] at e; cases e) (R.le c o e)
  L := by
    obtain ⟨m, ⟨o, es, ep, e, r⟩, q⟩ := R.L.ns
    refine ⟨R.L.fn, R.L.gl, R.L.bl, ⟨m, ⟨o, es, ep, k _ _ (fun z => a.own _ z (.inl rfl)) e, r⟩, q⟩, R.L.off, fun x b h1 h2 => ?_, fun x c h1 => ?_, R.L.apart⟩
    · obtain ⟨c, v, h3, ⟨o, h4, h5⟩, h6⟩ := R.L.cell x b h1 h2
      exact ⟨c, v, h3, ⟨o, k _ _ (fun z => a.cells _ z x h3) h4, h5⟩, h6⟩
    · obtain ⟨⟨v, o, h2, h3⟩, h4⟩ := R.L.cells x c h1
      exact ⟨⟨v, o, k _ _ (fun z => a.cells _ z x h1) h2, h3⟩, h4⟩
  mu := R.mu.keep (.refl _) (fun c m o e => k c o (fun q => a.mu c q m) e) R.mu.off
  muOff := R.muOff
theorem Aside.next {wr : List Addr} {h₀ h : Heap} {g' h' : Heap} {μ' : Mu} {Fx : Addr → Prop} (a : Aside wr env μ g h₀) (al : ∀ b ∈ wr, ∃ o, h.get? b = some o) (b : Bk w Fx μ g h μ' g' h') : Aside wr env μ' g' h₀ where
  g := fun c hc => let ⟨_, e⟩ := al c hc; none_of_fresh b.st.fresh (a.g c hc) e
  own := a.own
  cells := a.cells
  mu := fun c hc m => (b.st.mu c m).elim (a.mu c hc) fun q => by obtain ⟨_, e⟩ := al c hc; rw [q] at e; cases e
  h₀ := a.h₀
noncomputable def ForX (w : World) (A : Around) (env : Env) (target : Expr) (body : List Stmt) (P : Heap → Fl → Vars → Mu → Prop) : List AV → Heap → Vars → Mu → Prop
  | [], g, ρ, μ => P g .next ρ μ
  | v :: vs, g, ρ, μ => ∃ ρ₁, AsX w A env target v g ρ μ ρ₁ ∧ SX w A env body g ρ₁ μ (Turn (fun g₂ ρ₂ μ₂ => ForX w A env target body P vs g₂ ρ₂ μ₂) P)
theorem for_core {target : Expr} {body : List Stmt} {xs : List AV} {s : Shared} {I : Addr} {wr fp : List Addr} {Pv : Nat → Value → Prop} {St : Nat → Heap → Prop} {h₀ g₀ : Heap} {μ₀ : Mu} {R : Result → Shared → Prop}
    (W : Walks PR w A I fp wr xs.length Pv St) (hfp : ∀ b ∈ fp, b ∈ wr ∨ (g.get? b).isSome = true) (hP : ∀ i v, Pv i v → ∃ x, xs[i]? = some x ∧ RV g x v) (hal : ∀ i h, St i h → PlainIt h I ∧ ∀ b ∈ wr, ∃ o, h.get? b = some o)
    (as₀ : Aside wr env μ g h₀) (bk₀ : Bk w (own env) μ₀ g₀ h₀ μ g s.heap) (R₁ : Rel w g env ρ μ s.heap) (hst : St 0 s.heap) (hfor : ForX w A env target body P xs g ρ μ)
    (k : ∀ g' f ρ' μ' fl h' tk, P g' f ρ' μ' → Bk w (own env) μ₀ g₀ h₀ μ' g' h' → Rel w g' env ρ' μ' h' → RelF g' f fl → R (.ok fl) { s with heap := h', toks := tk }) :
    codeAny (model PR w) A (.forLoop target (.ref I) body [] env) R s := by
  refine codeAny_forLoop_any (fun n s' => ∃ i g' ρ' μ' h'' tk', s' = { s with heap := h'', toks := tk' } ∧ n + i = xs.length ∧ ForX w A env target body P (xs.drop i) g' ρ' μ' ∧ Bk w (own env) μ₀ g₀ h₀ μ' g' h'' ∧ Rel w g' env ρ' μ' h'' ∧ Aside wr env μ' g' h₀ ∧ St i h'' ∧ Le g g') ?_ xs.length
    ⟨0, g, ρ, μ, s.heap, s.toks, rfl, rfl, hfor, bk₀, R₁, as₀, hst, .refl _⟩
  rintro n s' ⟨i, g', ρ', μ', h'', tk', rfl, hn, hF, bk, R', as', hst', lg⟩
  by_cases hi : i < xs.length
  · refine W.item i _ _ _ hi hst' fun v h₃ tk₃ hPv hst₃ hk₃ => ?_
    obtain ⟨x, hx, rx⟩ := hP i v hPv
    have R₃ := as'.rel R' hk₃
    have bk₃ := as'.bk bk hk₃
    have al₃ := (hal _ _ hst₃).2
    have hd : xs.drop i = x :: xs.drop (i + 1) := by
      obtain ⟨hl, e⟩ := List.getElem?_eq_some_iff.mp hx
      rw [List.drop_eq_getElem_cons hl, e]
    rw [hd] at hF
    obtain ⟨ρ₁, hA, hB⟩ := hF
    refine ltg_plain (hal _ _ hst₃).1 ?_
    refine hA _ _ _ v R₃ (rx.mono lg) fun h₄ tk₄ bk₄ R₄ => ?_
    have as₄ := as'.next al₃ bk₄
    have al₄ : ∀ b ∈ wr, ∃ o, h₄.get? b = some o := fun b hb => let ⟨o, e⟩ := al₃ b hb; bk₄.st.dom b o e
    refine hB _ _ _ R₄ fun g₅ f ρ₅ μ₅ fl h₅ tk₅ p₅ bk₅ R₅ r₅ => ?_
    have bkT := (bk₃.trans bk₄).trans bk₅
    have hst₅ : St (i + 1) h₅ := W.frame _ _ _ hst₃ fun b hb o e => by
      rcases hfp b hb with q | q
      · have e4 := bk₄.st.kp b o e (as'.own b q) (as'.mu b q)
        exact bk₅.st.kp b o e4 (as₄.own b q) (as₄.mu b q)
      · obtain ⟨o', e'⟩ := Option.isSome_iff_exists.mp q
        have e3 := R₃.le b o' (lg b o' e')
        rw [e] at e3; cases e3
        exact R₅.le b o (bk₅.st.le b o (lg b o e'))
    cases r₅ with
    | next => exact ⟨n - 1, by omega, i + 1, g₅, ρ₅, μ₅, h₅, tk₅, rfl, by omega, p₅, bkT, R₅, as₄.next al₄ bk₅, hst₅, lg.trans bk₅.st.le⟩
    | cont => exact ⟨n - 1, by omega, i + 1, g₅, ρ₅, μ₅, h₅, tk₅, rfl, by omega, p₅, bkT, R₅, as₄.next al₄ bk₅, hst₅, lg.trans bk₅.st.le⟩
    | brk => exact k g₅ .next ρ₅ μ₅ .next h₅ tk₅ p₅ bkT R₅ .next
    | ret r => exact k g₅ _ ρ₅ μ₅ _ h₅ tk₅ p₅ bkT R₅ (.ret r)
  · have hin : i = xs.length := by omega
    subst hin
    refine W.done _ _ _ hst' fun h₃ tk₃ hk₃ => wpAny_execs_nil ?_
    rw [List.drop_length] at hF
    exact k g' .next ρ' μ' .next h₃ tk₃ hF (as'.bk bk hk₃) (as'.rel R' hk₃) .next
theorem S1.for {target iter : Expr} {body : List Stmt} {pos : Pos} (h : EX w A env iter g ρ μ fun g₁ a μ₁ => ∃ xs, Src w A a xs ∧ ForX w A env target body P xs g₁ ρ μ₁)
    (hs : ∀ x, foldedSetIterable iter env x = pure x := by intro _; rfl) : S1 w A env (.For target iter body [] pos) g ρ μ P := by
  intro s E Q R k
  refine wpAny_For (h.then R fun g₁ a μ₁ v₁ s₁ h₁ b₁ R₁ r₁ e₁ => ?_) hs
  obtain ⟨h', tk, rfl⟩ := e₁
  obtain ⟨xs, hsrc, hfor⟩ := h₁
  refine hsrc g₁ _ _ _ v₁ R₁.B R₁.le r₁ fun I wr fp Pv St h₂ hwr hfp W hP hal hst kp => ?_
  have as₀ := Aside.start R₁ hwr
  exact for_core (h₀ := h') (g₀ := g₁) (μ₀ := μ₁) W hfp hP hal as₀ (as₀.bk (.refl R₁.le R₁.mu) fun b o _ e => kp b o e) (as₀.rel R₁ fun b o _ e => kp b o e) hst hfor
    fun g' f ρ' μ' fl h' tk p bk R r => k g' f ρ' μ' fl h' tk p (b₁.weak.trans bk) R r
end
end Mine
set_option tactic.hygienic false
open PySem PySem.W PySem.Calls PyProof.Rows
set_option Elab.async false
set_option maxRecDepth 100000
set_option linter.unusedVariables false
namespace Mine
theorem lookup_of_mem : ∀ {l : List (Str × Value)}, (l.map (·.1)).Nodup → ∀ {x : Str} {v : Value}, (x, v) ∈ l → l.lookup x = some v
  | [], _, _, _, h => nomatch h
  | (y, u) :: r, hn, x, v, h => by
    rw [List.map_cons, List.nodup_cons] at hn
    rw [List.lookup_cons]
    rcases List.mem_cons.mp h with e | h'
    · cases e; simp
    · have : (x == y) = false := by
        simp only [beq_eq_false_iff_ne, ne_eq]
        intro e
        subst e; exact hn.1 (List.mem_map.mpr ⟨(x, v), h', rfl⟩)
      rw [this]; exact lookup_of_mem hn.2 h'
theorem lookup_rel {g : Heap} : ∀ {ρ : Vars} {binds : List (Str × Value)}, binds.map (·.1) = ρ.map (·.1) → RVs g (ρ.map (·.2)) (binds.map (·.2)) → ∀ {x : Str} {a : AV}, ρ.lookup x = some a → ∃ v, (x, v) ∈ binds ∧ RV g a v
  | [], _, _, _, _, _, h => by cases h
  | (y, b) :: ρ, [], h, _, _, _, _ => by cases h
  | (y, b) :: ρ, (z, u) :: binds, h, r, x, a, hx => by
    simp only [List.map_cons, List.cons.injEq] at h r
    obtain ⟨v, vs, e, r1, r2⟩ := r.uncons
    cases e
    rw [List.lookup_cons] at hx
    split at hx
    · rename_i q
      cases hx
      exact ⟨u, by rw [beq_iff_eq.mp q, ← h.1]; exact .head _, r1⟩
    · obtain ⟨v, hv, rv⟩ := lookup_rel h.2 r2 hx
      exact ⟨v, .tail _ hv, rv⟩
theorem lookup_bound {g : Heap} {ρ : Vars} {binds : List (Str × Value)} (h : binds.map (·.1) = ρ.map (·.1)) (r : RVs g (ρ.map (·.2)) (binds.map (·.2))) (hn : (ρ.map (·.1)).Nodup) {x : Str} {a : AV} (hx : ρ.lookup x = some a) : ∃ v, binds.reverse.lookup x = some v ∧ RV g a v := by
  obtain ⟨v, hv, rv⟩ := lookup_rel h r hx
  refine ⟨v, lookup_of_mem ?_ (List.mem_reverse.mpr hv), rv⟩
  rw [List.map_reverse, h]; exact List.pairwise_reverse.mpr (hn.imp Ne.symm)
section
variable {w : World} {A : Around} {env : Env} {g : Heap} {ρ : Vars} {μ : Mu} {P : Heap → AV → Mu → Prop}
noncomputable def Kpt (g : Heap) (f : Value) : Prop := ∀ (M : Model) (h : Heap), Le g h → ∃ k, (k = Keeper.frame ∨ k = Keeper.machine ∨ k = Keeper.boundFrame) ∧ Looks M h (keeperOf f) k
theorem Kpt.builtin {id : String} : Kpt g (.builtin id) := fun M h _ => ⟨.machine, .inr (.inl rfl), Looks.of_pure rfl⟩
theorem Kpt.type {T : String} : Kpt g (.type T) := fun M h _ => ⟨.machine, .inr (.inl rfl), Looks.of_pure rfl⟩
theorem Kpt.fn {a : Addr} {o : Obj} {fd : FuncData} (ho : g.get? a = some o) (hd : o.data = .func fd) : Kpt g (.ref a) := fun M h le => by
  refine ⟨.frame, .inl rfl, fun A Q E s k q => ?_⟩
  unfold keeperOf
  refine wpAny_bind (wpAny_load (k _ _ (le _ _ ho)) ?_)
  rw [hd]; exact wpAny_pure q
noncomputable abbrev ArgsP (w : World) (n : Nat) (f : Value) (P : Heap → AV → Mu → Prop) : Heap → List AV → Mu → Prop := fun g as μ => CX w n f as g μ P
noncomputable abbrev CallP (w : World) (A : Around) (env : Env) (pos : Pos) (es : List Expr) (ρ : Vars) (n : Nat) (P : Heap → AV → Mu → Prop) : Heap → AV → Mu → Prop := fun g₁ f μ₁ => ∃ fv, f = .raw fv ∧ (Base w g₁ → Kpt g₁ fv) ∧ LX w A env pos es g₁ ρ μ₁ (ArgsP w n fv P)
theorem EX.call {n : Nat} {x : Str} {p pos : Pos} {e : Expr} {rest : List Expr} (hr : Room A n) (h : EX w A env (.Name x p) g ρ μ (CallP w A env pos (e :: rest) ρ n P))
    (hp : (backTo pos (starEach (e :: rest) env)).any (·.1) = false := by rfl) (he : starEach (e :: rest) env = (false, eval e env) :: starEach rest env := by rfl) : EX w A env (.Call (.Name x p) (e :: rest) [] pos) g ρ μ P := by
  intro s E Q R k
  refine wpAny_bind (m := eval (.Name x p) env) (h.then R fun g₁ f μ₁ v₁ s₁ h₁ b₁ R₁ r₁ e₁ => ?_)
  obtain ⟨h', tk, rfl⟩ := e₁
  obtain ⟨fv, rfl, hk, h₁⟩ := h₁
  have ev : v₁ = fv := by obtain ⟨_, h⟩ := r₁.inv; exact h
  subst ev
  have hk := hk R₁.B
  refine callWith_of (P := fun h => Le g₁ h) (by show ((backTo pos (starEach (e :: rest) env)).any (·.1) || false) = false; rw [hp]; rfl) (fun h le => hk _ h le) ?_
  have fin : wpAny (model PR w) A (spliced (backTo pos (starEach (e :: rest) env))) (fun vs s₁ => Le g₁ s₁.heap ∧ wpAny (model PR w) A (PySem.call v₁ ([] ++ vs)) Q E s₁) E { s with heap := h', toks := tk } :=
    h₁ _ _ _ R₁ fun g₂ as μ₂ vs h₂ tk₂ p₂ b₂ r₂ => ⟨b₂.st.le.trans b₂.le, p₂ A _ _ _ _ hr (R₁.step b₂).B b₂.le b₂.mu r₂ fun g' c μ' v h' tk p b r => k g' c μ' v h' tk p ((b₁.trans b₂).trans b) r⟩
  rw [he] at fin ⊢
  exact evalArgs_plain fin
noncomputable def GetM (w : World) (ov : AV) (name : Str) (id : String) (g : Heap) (μ : Mu) : Prop :=
  ∀ (A : Around) (s : Shared) (E : Value → Shared → Prop) (Q : Value × List Value → Shared → Prop) (pl : Sem Bool) (va : Value), Le g s.heap → MuRel g μ s.heap → RV g ov va → Q (.builtin id, [va]) s → wpAny (model PR w) A (getMethod va name pl) Q E s
theorem GetM.append {ad : Addr} {xs : List AV} : GetM w (.mlist ad) "append" "list.append" g (some (.lst ad (xs))) := fun A s E Q pl va le M r q => by
  obtain ⟨_, rfl⟩ := r.inv
  obtain ⟨_, vs, ⟨ep, h2⟩, _⟩ := M.lst
  exact getMethod_list_append h2 rfl rfl q
theorem EX.meth {n : Nat} {o : Expr} {name : Str} {id : String} {apos pos : Pos} {e : Expr} {rest : List Expr} {pl : Sem Bool} (hr : Room A n)
    (h : EX w A env o g ρ μ fun g₁ ov μ₁ => GetM w ov name id g₁ μ₁ ∧ LX w A env pos (e :: rest) g₁ ρ μ₁ fun g₂ as μ₂ => CX w n (.builtin id) (ov :: as) g₂ μ₂ P)
    (hp : (backTo pos (starEach rest env)).any (·.1) = false := by rfl) (hs : starEach (e :: rest) env = (false, eval e env) :: starEach rest env := by rfl)
    (he : eval (.Call (.Attribute o name apos) (e :: rest) [] pos) env = (do
      let ov ← eval o env
      standAt apos.atName
      let (f, first) ← holding [ov] (getMethod ov name pl)
      callWith pos f first (backTo pos (starEach (e :: rest) env)) []) := by rfl) : EX w A env (.Call (.Attribute o name apos) (e :: rest) [] pos) g ρ μ P := by
  intro s E Q R k
  refine MethodCall_ (pl := pl) (h.then R fun g₁ ov μ₁ v₁ s₁ h₁ b₁ R₁ r₁ e₁ => ?_) he
  obtain ⟨h', tk, rfl⟩ := e₁
  refine h₁.1 A _ E _ pl v₁ R₁.le R₁.mu r₁ ?_
  refine callWith_method1 ?_ hs hp
  refine h₁.2 _ _ _ R₁ fun g₂ as μ₂ vs h₂ tk₂ p₂ b₂ r₂ => ?_
  exact p₂ A _ _ _ _ hr (R₁.step b₂).B b₂.le b₂.mu (.cons (r₁.mono b₂.st.le) r₂) fun g' c μ' v h' tk p b r => k g' c μ' v h' tk p ((b₁.trans b₂).trans b) r
theorem EX.meth0 {n : Nat} {o : Expr} {name : Str} {id : String} {apos pos : Pos} {pl : Sem Bool} (hr : Room A n)
    (h : EX w A env o g ρ μ fun g₁ ov μ₁ => GetM w ov name id g₁ μ₁ ∧ CX w n (.builtin id) [ov] g₁ μ₁ P)
    (he : eval (.Call (.Attribute o name apos) [] [] pos) env = (do
      let ov ← eval o env
      standAt apos.atName
      let (f, first) ← holding [ov] (getMethod ov name pl)
      callWith pos f first (backTo pos (starEach [] env)) []) := by rfl) : EX w A env (.Call (.Attribute o name apos) [] [] pos) g ρ μ P := by
  intro s E Q R k
  refine MethodCall_ (pl := pl) (h.then R fun g₁ ov μ₁ v₁ s₁ h₁ b₁ R₁ r₁ e₁ => ?_) he
  obtain ⟨h', tk, rfl⟩ := e₁
  refine h₁.1 A _ E _ pl v₁ R₁.le R₁.mu r₁ ?_
  refine callWith_method0 ?_
  exact h₁.2 A _ _ _ _ hr R₁.B R₁.le R₁.mu (.cons r₁ .nil) fun g' c μ' v h' tk p b r => k g' c μ' v h' tk p (b₁.trans b) r
noncomputable def retOf : Fl → AV
  | .ret a => a
  | _ => .none
theorem Loc.enter {h h₁ : Heap} {L : Addr} {env : Env} {ρ₀ ρf : Vars} {binds : List (Str × Value)} (le : Le g h) (hL : env.locals = L) (hn : h.get? L = none) (fn : env.scope.kind = .function) (gl : env.globals = mainGlobals) (bl : env.builtins = builtinsNs)
    (ns : h₁.Ns L fun x => binds.reverse.lookup x) (kp : Le h h₁) (h1 : binds.map (·.1) = ρ₀.map (·.1)) (r : RVs g (ρ₀.map (·.2)) (binds.map (·.2))) (nd : (ρ₀.map (·.1)).Nodup)
    (hloc : ∀ x ∈ ρ₀.map (·.1), env.kindOf x ≠ some .cell ∧ env.kindOf x ≠ some .free) (hnl : ∀ x, env.kindOf x = some .local → ρf.lookup x = none) (hc : ∀ x, env.kindOf x ≠ some .cell)
    (hf : ∀ x a, ρf.lookup x = some a → ∃ c v, env.cells.lookup x = some c ∧ g.IsCell c (some v) ∧ RV g a v)
    (hcells : ∀ x c, env.cells.lookup x = some c → ∃ v, g.IsCell c v) (ap : ∀ x y c, env.cells.lookup x = some c → env.cells.lookup y = some c → x = y) : Loc g env (ρ₀ ++ ρf) h₁ where
  fn := fn
  gl := gl
  bl := bl
  ns := ⟨_, hL ▸ ns, fun x a hx hk => by
    rw [List.lookup_append] at hx
    cases q : ρ₀.lookup x with
    | none => rw [q, hnl x hk] at hx; cases hx
    | some b => rw [q] at hx; cases hx; exact lookup_bound h1 r nd q⟩
  off := by rw [hL]; exact le.none hn
  cell := fun x a hx hk => by
    rw [List.lookup_append] at hx
    cases q : ρ₀.lookup x with
    | some b =>
      exfalso
      have hm : x ∈ ρ₀.map (·.1) := List.mem_map.mpr ⟨(x, b), mem_of_lookup q, rfl⟩
      exact hk.elim (hloc x hm).1 (hloc x hm).2
    | none =>
      rw [q] at hx
      obtain ⟨c, v, h2, h3, h4⟩ := hf x a hx
      exact ⟨c, v, h2, h3.keeps fun b o e => kp b o (le b o e), h4⟩
  cells := fun x c hx => by
    obtain ⟨v, o, e, r⟩ := hcells x c hx
    refine ⟨⟨v, o, kp _ _ (le _ _ e), r⟩, ?_, fun k => absurd k (hc x)⟩
    rintro rfl
    rw [hL] at e
    have := le _ _ e
    rw [hn] at this; cases this
  apart := ap
theorem CKX.def {n : Nat} {f : Addr} {fd : FuncData} {o : Obj} {body : List Stmt} {args : List AV} {names : List Str} {kargs : List AV} {ρ₀ ρf : Vars}
    (ho : Base w g → g.get? f = some o) (hd : o.data = .func fd) (hcd : Base w g → g.CodeRec fd.code fd.qualname) (hbody : fd.body = .stmts body)
    (hb : ∀ (s : Shared) (vs ks : List Value), (KF w).In s.heap → RVs g args vs → RVs g kargs ks → ∃ binds, BindsTo s fd ⟨vs, names.zip ks⟩ binds ∧ binds.map (·.1) = ρ₀.map (·.1) ∧ RVs g (ρ₀.map (·.2)) (binds.map (·.2)))
    (nd : (ρ₀.map (·.1)).Nodup) (hloc : ∀ x ∈ ρ₀.map (·.1), fd.scope.names.lookup x = some .local) (hcell : ∀ x ∈ fd.scope.names, x.2 ≠ .cell)
    (hfl : ∀ x ∈ ρf.map (·.1), fd.scope.names.lookup x = some .free)
    (hf : Base w g → ∀ x a, ρf.lookup x = some a → ∃ c v, fd.closure.lookup x = some c ∧ g.IsCell c (some v) ∧ RV g a v)
    (hcells : Base w g → ∀ x c, fd.closure.lookup x = some c → ∃ v, g.IsCell c v) (ap : ∀ x y c, fd.closure.lookup x = some c → fd.closure.lookup y = some c → x = y)
    (hgl : fd.globals = mainGlobals) (hbl : fd.builtins = builtinsNs)
    (h : ∀ A L, Room A n → SX w A (callEnv fd L f) body g (ρ₀ ++ ρf) μ fun g' fl ρ' μ' => P g' (retOf fl) μ')
    (hco : fd.scope.isCoroutine = false := by rfl) (hgen : fd.scope.isGenerator = false := by rfl) (hk : fd.scope.kind = .function := by rfl) : CKX w (n + 1) (.ref f) args names kargs g μ P := by
  intro A s E Q vs ks Rm B le M r rk k
  obtain ⟨p, l, me, mg, mb, T⟩ := B.T
  obtain ⟨binds, hb1, hb2, hb3⟩ := hb s vs ks (B.K.keeps le) r rk
  refine wpAny_call (codeAny_call_def (by have := Rm.dp; omega) (le _ _ (ho B)) hd ((T.nolimit).keeps le) ((hcd B).keeps le) hbody hb1 hcell (fun x hx => ?_) (fun h₁ hns kp => ?_) hco hgen hk)
  · exact hloc _ (hb2 ▸ List.mem_map_of_mem hx)
  have L := Loc.enter (g := g) (ρ₀ := ρ₀) (ρf := ρf) (env := callEnv fd s.heap.objs.size f) le rfl (fresh_size _) hk hgl hbl hns kp hb2 hb3 nd
    (fun x hx => by
      have e : (callEnv fd s.heap.objs.size f).kindOf x = some .local := hloc x hx
      rw [e]; exact ⟨nofun, nofun⟩)
    (fun x hx => by
      cases q : ρf.lookup x with
      | none => rfl
      | some a =>
        have e : (callEnv fd s.heap.objs.size f).kindOf x = some .free := hfl x (List.mem_map.mpr ⟨(x, a), mem_of_lookup q, rfl⟩)
        rw [e] at hx; cases hx)
    (fun x hx => hcell _ (mem_of_lookup (show fd.scope.names.lookup x = some .cell from hx)) rfl) (hf B) (hcells B) ap
  have M₁ : MuRel g μ h₁ := M.keep (.refl _) (fun b _ o e => kp b o e) M.off
  have nown : ∀ b o, s.heap.get? b = some o → ¬ own (callEnv fd s.heap.objs.size f) b := fun b o e => by
    rintro (rfl | ⟨x, hx, _⟩)
    · exact absurd (Heap.lt_size e) (Nat.lt_irrefl _)
    · exact hcell _ (mem_of_lookup (show fd.scope.names.lookup x = some .cell from hx)) rfl
  have R₁ : Rel w g (callEnv fd s.heap.objs.size f) (ρ₀ ++ ρf) μ h₁ := ⟨B, le.trans kp, L, M₁, fun b m => by
    obtain ⟨o₂, m2⟩ := M.there b m
    refine ⟨nown b _ m2, fun x hx => ?_⟩
    obtain ⟨v, o, e', _⟩ := hcells B x b hx
    rw [M.off b m] at e'; cases e'⟩
  have kd : ∀ b o, s.heap.get? b = some o → ∃ o', h₁.get? b = some o' := fun b o e => ⟨o, kp b o e⟩
  refine h _ _ (Rm.deeper _) _ _ _ R₁ fun g' fl' ρ' μ' fl h' tk p b R r => ?_
  have bk : Bk w noF μ g s.heap μ' g' h' := ⟨⟨b.st.le, fun b' o e => (b.st.fresh b' o e).imp id fun q => dom_none kd q, fun b' o e _ m => b.st.kp b' o (kp _ _ e) (nown b' o e) m, fun b' o e => b.st.dom b' o (kp _ _ e), fun b' m => (b.st.mu b' m).imp id fun q => dom_none kd q⟩, b.le, b.mu⟩
  cases r with
  | next => exact k g' _ μ' .none h' tk p bk .none
  | brk => exact k g' _ μ' .none h' tk p bk .none
  | cont => exact k g' _ μ' .none h' tk p bk .none
  | ret r => exact k g' _ μ' _ h' tk p bk r
theorem CX.def {n : Nat} {f : Addr} {fd : FuncData} {o : Obj} {body : List Stmt} {args : List AV} {ρ₀ ρf : Vars}
    (ho : Base w g → g.get? f = some o) (hd : o.data = .func fd) (hcd : Base w g → g.CodeRec fd.code fd.qualname) (hbody : fd.body = .stmts body)
    (hb : ∀ (s : Shared) (vs : List Value), (KF w).In s.heap → RVs g args vs → ∃ binds, BindsTo s fd ⟨vs, []⟩ binds ∧ binds.map (·.1) = ρ₀.map (·.1) ∧ RVs g (ρ₀.map (·.2)) (binds.map (·.2)))
    (nd : (ρ₀.map (·.1)).Nodup) (hloc : ∀ x ∈ ρ₀.map (·.1), fd.scope.names.lookup x = some .local) (hcell : ∀ x ∈ fd.scope.names, x.2 ≠ .cell)
    (hfl : ∀ x ∈ ρf.map (·.1), fd.scope.names.lookup x = some .free)
    (hf : Base w g → ∀ x a, ρf.lookup x = some a → ∃ c v, fd.closure.lookup x = some c ∧ g.IsCell c (some v) ∧ RV g a v)
    (hcells : Base w g → ∀ x c, fd.closure.lookup x = some c → ∃ v, g.IsCell c v) (ap : ∀ x y c, fd.closure.lookup x = some c → fd.closure.lookup y = some c → x = y)
    (hgl : fd.globals = mainGlobals) (hbl : fd.builtins = builtinsNs)
    (h : ∀ A L, Room A n → SX w A (callEnv fd L f) body g (ρ₀ ++ ρf) μ fun g' fl ρ' μ' => P g' (retOf fl) μ')
    (hco : fd.scope.isCoroutine = false := by rfl) (hgen : fd.scope.isGenerator = false := by rfl) (hk : fd.scope.kind = .function := by rfl) : CX w (n + 1) (.ref f) args g μ P := fun A s E Q vs Rm B le M r k =>
  CKX.def (names := []) (kargs := []) ho hd hcd hbody (fun s vs ks X r rk => by obtain rfl := rk.unnil; exact hb s vs X r) nd hloc hcell hfl hf hcells ap hgl hbl h hco hgen hk A s E Q vs [] Rm B le M r .nil k
theorem Bk.drop {Fx : Addr → Prop} {μ μ' : Mu} {g h g' h' : Heap} (b : Bk w Fx μ g h μ' g' h') : Bk w Fx μ g h none g' h' := ⟨⟨b.st.le, b.st.fresh, b.st.kp, b.st.dom, fun b m => absurd m mad_none⟩, b.le, .nil⟩
theorem CX.drop {n : Nat} {f : Value} {args : List AV} (h : CX w n f args g μ fun g' a _ => P g' a none) : CX w n f args g μ P := fun A s E Q vs R B le M r k => h A s E Q vs R B le M r fun g' c μ' v h' tk p b rv => k g' c none v h' tk p b.drop rv
theorem CKX.drop {n : Nat} {f : Value} {args kargs : List AV} {names : List Str} (h : CKX w n f args names kargs g μ fun g' a _ => P g' a none) : CKX w n f args names kargs g μ P := fun A s E Q vs ks R B le M r rk k => h A s E Q vs ks R B le M r rk fun g' c μ' v h' tk p b rv => k g' c none v h' tk p b.drop rv
theorem EX.callK {n : Nat} {x kn : Str} {p pos kp : Pos} {e ke : Expr} {rest : List Expr} (hr : Room A n) (h : EX w A env (.Name x p) g ρ μ fun g₁ f μ₁ => ∃ fv, f = .raw fv ∧ (Base w g₁ → Kpt g₁ fv) ∧ LX w A env pos (e :: rest) g₁ ρ μ₁ fun g₂ as μ₂ => EX w A env ke g₂ ρ μ₂ fun g₃ ka μ₃ => CKX w n fv as [kn] [ka] g₃ μ₃ P)
    (hp : ((backTo pos (starEach (e :: rest) env)).any (·.1) || (backToKw pos (keywordEach [⟨some kn, ke, kp⟩] env)).any (·.1.isNone)) = false := by rfl) (he : starEach (e :: rest) env = (false, eval e env) :: starEach rest env := by rfl) : EX w A env (.Call (.Name x p) (e :: rest) [⟨some kn, ke, kp⟩] pos) g ρ μ P := by
  intro s E Q R k
  refine wpAny_Call_Name_kw (h.then R fun g₁ f μ₁ v₁ s₁ h₁ b₁ R₁ r₁ e₁ => ?_)
  obtain ⟨h', tk, rfl⟩ := e₁
  obtain ⟨fv, rfl, hk, h₁⟩ := h₁
  have ev : v₁ = fv := by obtain ⟨_, h⟩ := r₁.inv; exact h
  subst ev
  have hk := hk R₁.B
  refine callWith_of (P := fun h => Le g₁ h) hp (fun h le => hk _ h le) (evalArgs_kw2 rfl ?_ he)
  refine h₁ _ _ _ R₁ fun g₂ as μ₂ vs h₂ tk₂ p₂ b₂ r₂ => ?_
  have R₂ := R₁.step b₂
  refine kwAll_cons (p₂.then R₂ fun g₃ ka μ₃ v₃ s₃ h₃ b₃ R₃ r₃ e₃ => kwAll_nil ?_)
  obtain ⟨h₃', tk₃, rfl⟩ := e₃
  refine ⟨b₂.st.le.trans (b₃.st.le.trans b₃.le), ?_⟩
  exact h₃ A _ _ _ _ _ hr R₃.B R₃.le R₃.mu (r₂.mono b₃.st.le) (.cons r₃ .nil) fun g' c μ' v h' tk p b r => k g' c μ' v h' tk p (((b₁.trans b₂).trans b₃).trans b) r
end
end Mine
local macro_rules | `(tactic| walk_at "om") => `(tactic| first | with_reducible exact Nat.zero_le _ | with_reducible exact Nat.le_refl _ | with_reducible exact Int.natCast_nonneg _ | with_reducible exact Nat.le_add_right _ _ | with_reducible assumption | decide | exact Mine.le_const (by with_reducible assumption) (by decide) | exact Mine.lt_const (by with_reducible assumption) (by decide) | with_reducible exact Mine.i63 (by assumption) (by assumption) (by decide) | lia | omega)
local macro_rules | `(tactic| walk_at "od") => `(tactic| first | with_reducible exact Nat.zero_le _ | with_reducible exact Nat.le_refl _ | with_reducible exact Int.natCast_nonneg _ | with_reducible exact Nat.le_add_right _ _ | with_reducible assumption | decide | exact Mine.le_const (by with_reducible assumption) (by decide) | exact Mine.lt_const (by with_reducible assumption) (by decide) | with_reducible exact Mine.i63 (by assumption) (by assumption) (by decide) | omega)
local macro_rules | `(tactic| walk_at "nm") => `(tactic| refine Mine.EX.name (by rfl) (by rfl) ?_)
local macro_rules | `(tactic| walk_at "nc") => `(tactic| refine Mine.EX.nameC (by rfl) (by rfl) ?_)
local macro_rules | `(tactic| walk_at "fn") => `(tactic| refine Mine.EX.glob (a := .raw _) (by rfl) (by rfl) (fun _ => .raw _) ⟨_, rfl, fun B => Mine.Kpt.fn (B.K _ _ (by rfl)) rfl, ?_⟩)
local macro_rules | `(tactic| walk_at "bf") => `(tactic| refine Mine.EX.built (by rfl) (by rfl) (by rfl) ⟨_, rfl, fun B => Mine.Kpt.builtin, ?_⟩)
local macro_rules | `(tactic| walk_at "tf") => `(tactic| refine Mine.EX.built (by rfl) (by rfl) (by rfl) ⟨_, rfl, fun B => Mine.Kpt.type, ?_⟩)
local macro_rules | `(tactic| walk_at "bv") => `(tactic| refine Mine.EX.built (by rfl) (by rfl) (by rfl) ?_)
set_option tactic.hygienic false
open PySem PySem.W PySem.Calls PyProof.Rows
set_option Elab.async false
set_option maxRecDepth 100000
set_option linter.unusedVariables false
namespace Mine
section
variable {w : World} {A : Around} {env : Env} {g : Heap} {ρ : Vars} {μ : Mu} {P : Heap → AV → Mu → Prop}
theorem Bk.turnTo {h h' : Heap} {ad : Addr} {xs xs' : List AV} {vs' : List Value} {ep' : Nat} (le : Le g h) (m : MuRel g (some (.lst ad (xs))) h) (hs : Heap.SameBut ad h h')
    (hn : h'.get? ad = some { cls := .type "list", dict := none, data := .seq vs'.toArray ep', slots := #[] }) (r : RVs g xs' vs') : Bk w noF (some (.lst ad (xs))) g h (some (.lst ad (xs'))) g h' := by
  obtain ⟨m1, _⟩ := m.lst
  have gle : Le g h' := fun b o q => (hs.2 b (by rintro rfl; rw [m1] at q; cases q)).trans (le b o q)
  exact ⟨⟨.refl _, fun _ _ q => .inl q, fun b o q _ nm => (hs.2 b fun z => nm z).trans q, sameBut_dom hs ⟨_, hn⟩, fun b q => .inl q⟩, gle, .ofLst m1 ⟨ep', hn⟩ r⟩
theorem OX2.add {a b : Int} (h : P g (.int (a + b)) μ) : OX2 w A (binaryOp .Add) (.int a) (.int b) g μ P := pure2 (fun s E Q va vb g r1 r2 k => by obtain ⟨_, rfl⟩ := r1.inv; obtain ⟨_, rfl⟩ := r2.inv; with_reducible exact add_int (k _ _ (.int ..))) h
theorem OX2.sub {a b : Int} (h : P g (.int (a - b)) μ) : OX2 w A (binaryOp .Sub) (.int a) (.int b) g μ P := pure2 (fun s E Q va vb g r1 r2 k => by obtain ⟨_, rfl⟩ := r1.inv; obtain ⟨_, rfl⟩ := r2.inv; with_reducible exact PyProof.Rows.sub_int (k _ _ (.int ..))) h
theorem OX2.mul {a b : Int} (hm : IntMulOk a b) (h : P g (.int (a * b)) μ) : OX2 w A (binaryOp .Mult) (.int a) (.int b) g μ P := pure2 (fun s E Q va vb g r1 r2 k => by obtain ⟨_, rfl⟩ := r1.inv; obtain ⟨_, rfl⟩ := r2.inv; with_reducible exact PyProof.Rows.mul_int (k _ _ (.int ..)) hm) h
theorem OX2.shr {a n : Int} (hn : 0 ≤ n) (h : P g (.int (a.fdiv (2 ^ n.toNat))) μ) : OX2 w A (binaryOp .RShift) (.int a) (.int n) g μ P := pure2 (fun s E Q va vb g r1 r2 k => by obtain ⟨_, rfl⟩ := r1.inv; obtain ⟨_, rfl⟩ := r2.inv; with_reducible exact rshift_int hn (k _ _ (.int ..))) h
theorem OX2.shl {a n : Int} (hn : 0 ≤ n) (hn2 : n ≤ 1000000) (ha : a.natAbs < 2 ^ 64) (h : P g (.int (a * 2 ^ n.toNat)) μ) : OX2 w A (binaryOp .LShift) (.int a) (.int n) g μ P := pure2 (fun s E Q va vb g r1 r2 k => by obtain ⟨_, rfl⟩ := r1.inv; obtain ⟨_, rfl⟩ := r2.inv; with_reducible exact lshift_int_small hn hn2 ha (k _ _ (.int ..))) h
theorem OX2.and {a b : Int} (h : P g (.int (Builtin.bitAnd a b)) μ) : OX2 w A (binaryOp .BitAnd) (.int a) (.int b) g μ P := pure2 (fun s E Q va vb g r1 r2 k => by obtain ⟨_, rfl⟩ := r1.inv; obtain ⟨_, rfl⟩ := r2.inv; with_reducible exact and_int (k _ _ (.int ..))) h
theorem OX2.or {a b : Int} (h : P g (.int (Builtin.bitOr a b)) μ) : OX2 w A (binaryOp .BitOr) (.int a) (.int b) g μ P := pure2 (fun s E Q va vb g r1 r2 k => by obtain ⟨_, rfl⟩ := r1.inv; obtain ⟨_, rfl⟩ := r2.inv; with_reducible exact or_int (k _ _ (.int ..))) h
theorem OX2.mod {a b : Int} (hb : b ≠ 0) (h : P g (.int (a.fmod b)) μ) : OX2 w A (binaryOp .Mod) (.int a) (.int b) g μ P := pure2 (fun s E Q va vb g r1 r2 k => by obtain ⟨_, rfl⟩ := r1.inv; obtain ⟨_, rfl⟩ := r2.inv; with_reducible exact mod_int' hb (k _ _ (.int ..))) h
theorem OX2.fdiv {a b : Int} (hb : b ≠ 0) (hp : Builtin.divisionGoesByPylong a b = false) (h : P g (.int (a.fdiv b)) μ) : OX2 w A (binaryOp .FloorDiv) (.int a) (.int b) g μ P := pure2 (fun s E Q va vb g r1 r2 k => by obtain ⟨_, rfl⟩ := r1.inv; obtain ⟨_, rfl⟩ := r2.inv; with_reducible exact floordiv_int hb (k _ _ (.int ..)) (.inl hp)) h
theorem OX2.pow {a n : Int} (hn : 0 ≤ n) (hn2 : n ≤ 1000000) (ha : a.natAbs < 2 ^ 64) (h : P g (.int (a ^ n.toNat)) μ) : OX2 w A (binaryOp .Pow) (.int a) (.int n) g μ P := pure2 (fun s E Q va vb g r1 r2 k => by obtain ⟨_, rfl⟩ := r1.inv; obtain ⟨_, rfl⟩ := r2.inv; with_reducible exact pow_int_small hn hn2 ha (k _ _ (.int ..))) h
theorem OX1.neg {a : Int} (h : P g (.int (-a)) μ) : OX1 w A (unaryOp .USub) (.int a) g μ P := pure1 (fun s E Q va g r k => by obtain ⟨_, rfl⟩ := r.inv; with_reducible exact PyProof.Rows.neg_int (k _ _ (.int ..))) h
theorem OX2.lt {a b : Int} (h : P g (.bool (decide (a < b))) μ) : OX2 w A (compareOp .Lt) (.int a) (.int b) g μ P := pure2 (fun s E Q va vb g r1 r2 k => by obtain ⟨_, rfl⟩ := r1.inv; obtain ⟨_, rfl⟩ := r2.inv; with_reducible exact wpAny_lt_int (k _ s.toks (.bool _))) h
theorem OX2.gt {a b : Int} (h : P g (.bool (decide (b < a))) μ) : OX2 w A (compareOp .Gt) (.int a) (.int b) g μ P := pure2 (fun s E Q va vb g r1 r2 k => by obtain ⟨_, rfl⟩ := r1.inv; obtain ⟨_, rfl⟩ := r2.inv; with_reducible exact gt_int (k _ s.toks (.bool _))) h
theorem OX2.ge {a b : Int} (h : P g (.bool (decide (b ≤ a))) μ) : OX2 w A (compareOp .GtE) (.int a) (.int b) g μ P := pure2 (fun s E Q va vb g r1 r2 k => by obtain ⟨_, rfl⟩ := r1.inv; obtain ⟨_, rfl⟩ := r2.inv; with_reducible exact PyProof.Rows.ge_int (k _ s.toks (.bool _))) h
theorem OX2.eq {a b : Int} (h : P g (.bool (a == b)) μ) : OX2 w A (compareOp .Eq) (.int a) (.int b) g μ P := pure2 (fun s E Q va vb g r1 r2 k => by obtain ⟨_, rfl⟩ := r1.inv; obtain ⟨_, rfl⟩ := r2.inv; with_reducible exact eq_int (k _ s.toks (.bool _))) h
theorem OX2.isNone {a : AV} (hna : ∀ g v, RV g a v → v ≠ .none) (h : P g (.bool false) μ) : OX2 w A (compareOp .Is) a .none g μ P := pure2 (fun s E Q va vb g r1 r2 k => by
  obtain ⟨_, rfl⟩ := r2.inv
  refine is_none ?_
  rw [show (va == Value.none) = false from beq_eq_false_iff_ne.mpr (hna g va r1)]
  exact k _ s.toks (.bool _)) h
theorem OX2.isNotNone0 (h : P g (.bool false) μ) : OX2 w A (compareOp .IsNot) .none .none g μ P := pure2 (fun s E Q va vb g r1 r2 k => by
  obtain ⟨_, rfl⟩ := r1.inv; obtain ⟨_, rfl⟩ := r2.inv
  exact isNot_none (k _ s.toks (.bool _))) h
theorem OX2.isPlain {a b : Value} (hp : plainIs a b = true) (h : P g (.bool (a == b)) μ) : OX2 w A (compareOp .Is) (.raw a) (.raw b) g μ P := pure2 (fun s E Q va vb g r1 r2 k => by
  obtain ⟨_, rfl⟩ := r1.inv; obtain ⟨_, rfl⟩ := r2.inv
  exact wpAny_is_plain hp (k _ s.toks (.bool _))) h
theorem len_sized {xs : List AV} {vs : List Value} (r : RVs g xs vs) : (vs.toArray.size : Int) = xs.length := by rw [List.size_toArray, r.1]
theorem CX.lenL {xs : List AV} (hz : xs.length ≤ 2 ^ 24) (h : P g (.int xs.length) μ) : CX w 0 (.builtin "len") [.list xs] g μ P := by
  intro A s E Q vs Rm B le M r k
  obtain ⟨v, vs', rfl, r1, r2⟩ := r.uncons
  rw [r2.unnil]
  obtain ⟨a, us, rfl, hl, ru⟩ := r1.unlist
  refine call_len_list (items := us.toArray) ((hl.mono le).isList) (by rw [len_sized ru]; walk_at "om") ?_
  rw [len_sized ru]
  exact k g _ μ _ s.heap _ h (.refl le M) (.int ..)
theorem CX.lenM {ad : Addr} {xs : List AV} (hz : xs.length ≤ 2 ^ 24) (h : P g (.int xs.length) (some (.lst ad (xs)))) : CX w 0 (.builtin "len") [.mlist ad] g (some (.lst ad (xs))) P := by
  intro A s E Q vs Rm B le M r k
  obtain ⟨v, vs', rfl, r1, r2⟩ := r.uncons
  rw [r2.unnil]
  obtain ⟨_, rfl⟩ := r1.inv
  obtain ⟨_, us, hl, ru⟩ := M.lst
  refine call_len_list (items := us.toArray) hl.isList (by rw [len_sized ru]; walk_at "om") ?_
  rw [len_sized ru]
  exact k g _ _ _ s.heap _ h (.refl le M) (.int ..)
theorem CX.append {ad : Addr} {xs : List AV} {a : AV} (hz : xs.length ≤ 2 ^ 24) (h : P g .none (some (.lst ad (xs ++ [a])))) : CX w 0 (.builtin "list.append") [.mlist ad, a] g (some (.lst ad (xs))) P := by
  intro A s E Q vs Rm B le M r k
  obtain ⟨v, u, rfl, r1, r2⟩ := r.two
  obtain ⟨_, rfl⟩ := r1.inv
  obtain ⟨_, us, ⟨ep, hl⟩, ru⟩ := M.lst
  refine append_at (n := ep) (its := us.toArray) (hsz := by rw [List.size_toArray, ru.1]; exact hz) hl fun h' hs ho => ?_
  have b := Bk.turnTo (w := w) (vs' := us ++ [u]) (ep' := ep + 1) le M hs (by rw [ho]; simp) (ru.append (.cons r2 .nil))
  exact k g .none _ .none _ s.toks h b .none
theorem OT.mlist {ad : Addr} {xs : List AV} {P : Heap → Bool → Mu → Prop} (hz : xs.length ≤ 2 ^ 24) (h : P g (!xs.isEmpty) (some (.lst ad (xs)))) : OT w A (.mlist ad) g (some (.lst ad (xs))) P := by
  intro s E Q va B le M r k
  obtain ⟨_, rfl⟩ := r.inv
  obtain ⟨_, us, hl, ru⟩ := M.lst
  refine wpAny_truthy_list (items := us.toArray) hl.isList (by rw [len_sized ru]; walk_at "om") ?_
  have e : (us.toArray.isEmpty) = xs.isEmpty := by
    cases xs with
    | nil => rw [ru.unnil]; rfl
    | cons x xs => obtain ⟨v, vs, rfl, _⟩ := ru.uncons; rfl
  rw [e]
  exact k _ _ h
theorem CX.pop {ad : Addr} {xs : List AV} {a : AV} (hz : (xs ++ [a]).length ≤ 2 ^ 24) (h : P g a (some (.lst ad (xs)))) : CX w 0 (.builtin "list.pop") [.mlist ad] g (some (.lst ad (xs ++ [a]))) P := by
  intro A s E Q vs Rm B le M r k
  obtain ⟨v, vs', rfl, r1, r2⟩ := r.uncons
  rw [r2.unnil]
  obtain ⟨_, rfl⟩ := r1.inv
  obtain ⟨_, us, ⟨ep, hl⟩, ru⟩ := M.lst
  have hlen : us.length = xs.length + 1 := by rw [ru.1]; simp
  obtain ⟨u, hu, rau⟩ := ru.get (i := xs.length) (x := a) (by simp)
  have hsz : us.toArray.size - 1 = xs.length := by rw [List.size_toArray, hlen]; rfl
  refine call_meets F.slot_list_pop ⟨_, hl, rfl⟩ F.entry_list_pop (F.args_list_pop_1 _) (MeetsSeq.list_pop_last ad us.toArray ep u (by rw [hsz]; simpa using hu) (by rw [List.size_toArray, ru.1]; exact hz)) ⟨hl, ?_⟩
  have e1 : (us.toArray.eraseIdxIfInBounds xs.length) = us.dropLast.toArray := by
    apply Array.toList_inj.mp
    simp only [Array.toList_eraseIdxIfInBounds]
    rw [List.eraseIdx_eq_dropLast hlen.symm]
  have r' : RVs g xs us.dropLast := by
    refine ⟨by rw [List.length_dropLast, hlen]; rfl, fun i x v e f => ?_⟩
    have hi : i < xs.length := (List.getElem?_eq_some_iff.mp e).1
    refine ru.2 i x v (by rw [List.getElem?_append_left hi]; exact e) ?_
    rw [List.getElem?_dropLast] at f
    split at f
    · exact f
    · cases f
  have b := Bk.turn (w := w) (xs' := xs) (vs' := us.dropLast) (ep' := ep + 1) (f := fun xs => xs.eraseIdxIfInBounds (us.toArray.size - 1)) le M hl (by
    rw [hsz]
    simp only [Obj.mapSeq, e1]
    have : us.dropLast.toArray.size ≠ us.toArray.size := by simp [hlen]
    simp [this, hlen]) r'
  exact k g a _ u _ s.toks h b rau
end
end Mine
namespace Mine
noncomputable def AllIn (ρ : Vars) : Vars → Prop
  | [] => True
  | (x, a) :: r => ρ.lookup x = some a ∧ AllIn ρ r
theorem AllIn.mem {ρ : Vars} : ∀ {r : Vars}, AllIn ρ r → ∀ {x : Str} {a : AV}, r.lookup x = some a → ρ.lookup x = some a
  | [], _, _, _, e => nomatch e
  | (y, b) :: r, h, x, a, e => by
    rw [List.lookup_cons] at e
    split at e
    · rename_i q; cases e; rw [beq_iff_eq.mp q]; exact h.1
    · exact h.2.mem e
theorem Rel.forget {w : World} {g : Heap} {env : Env} {ρ ρ₂ : Vars} {μ : Mu} {h : Heap} (R : Rel w g env ρ μ h) (s : AllIn ρ ρ₂) : Rel w g env ρ₂ μ h :=
  ⟨R.B, R.le, ⟨R.L.fn, R.L.gl, R.L.bl, let ⟨m, n, q⟩ := R.L.ns; ⟨m, n, fun x a h1 h2 => q x a (s.mem h1) h2⟩, R.L.off, fun x a h1 h2 => R.L.cell x a (s.mem h1) h2, R.L.cells, R.L.apart⟩, R.mu, R.muOff⟩
theorem SX.forget {w : World} {A : Around} {env : Env} {ss : List Stmt} {g : Heap} {ρ : Vars} {μ : Mu} {P : Heap → Fl → Vars → Mu → Prop} (h : SX w A env ss g ρ μ fun g' f ρ₁ μ' => ∃ ρ₂, AllIn ρ₁ ρ₂ ∧ P g' f ρ₂ μ') : SX w A env ss g ρ μ P :=
  fun s E Q R k => h s E Q R fun g' f ρ₁ μ' fl h' tk p b R' r => let ⟨ρ₂, q, p⟩ := p; k g' f ρ₂ μ' fl h' tk p b (R'.forget q) r
end Mine
set_option tactic.hygienic false
open PySem PySem.W PySem.Calls PyProof.Rows
set_option Elab.async false
set_option maxRecDepth 100000
set_option linter.unusedVariables false
namespace Mine
section
variable {w : World} {g : Heap} {μ : Mu} {P : Heap → AV → Mu → Prop}
theorem CX.top {n : Nat} {f : Addr} {name qual : Str} {params : Arguments} {body : List Stmt} {scope : Scope} {dV kV doc pm cdv ct oc : Value} {an od : Option Addr} {osl : Array (Option Value)} {args : List AV} {ρ₀ : Vars} {names : List Str}
    (hK : (KF w).lookup f = some ⟨oc, od, .func (fnOf name qual params body scope dV kV doc pm an cdv ct), osl⟩) (hcd : codeIn (KF w) cdv qual = true)
    (hb : ∀ (s : Shared) (vs : List Value), (KF w).In s.heap → RVs g args vs → ∃ binds, BindsTo s (fnOf name qual params body scope dV kV doc pm an cdv ct) ⟨vs, []⟩ binds ∧ binds.map (·.1) = names ∧ RVs g (ρ₀.map (·.2)) (binds.map (·.2)))
    (hnm : ρ₀.map (·.1) = names) (nd : names.Nodup) (hloc : ∀ x ∈ names, scope.names.lookup x = some .local) (hcell : ∀ x ∈ scope.names, x.2 ≠ .cell)
    (h : ∀ A L, Room A n → SX w A (callEnv (fnOf name qual params body scope dV kV doc pm an cdv ct) L f) body g ρ₀ μ fun g' fl ρ' μ' => P g' (retOf fl) μ')
    (hco : scope.isCoroutine = false := by rfl) (hgen : scope.isGenerator = false := by rfl) (hk : scope.kind = .function := by rfl) : CX w (n + 1) (.ref f) args g μ P :=
  CX.def (ρf := []) (fun B => B.K _ _ hK) rfl (fun B => codeRec_of B.K hcd) rfl (fun s vs k r => hnm ▸ hb s vs k r) (hnm ▸ nd) (hnm ▸ hloc) hcell (fun x hx => nomatch hx) (fun B x a hx => nomatch hx) (fun B x c hx => nomatch hx) (fun x y c hx => nomatch hx) rfl rfl
    (fun A L R => by rw [List.append_nil]; exact h A L R) hco hgen hk
theorem RVs.one {a : AV} {vs : List Value} (h : RVs g [a] vs) : ∃ v, vs = [v] ∧ RV g a v := by
  obtain ⟨v, r, rfl, h1, h2⟩ := h.uncons
  rw [h2.unnil]; exact ⟨v, rfl, h1⟩
theorem RVs.three {a b c : AV} {vs : List Value} (h : RVs g [a, b, c] vs) : ∃ v u t, vs = [v, u, t] ∧ RV g a v ∧ RV g b u ∧ RV g c t := by
  obtain ⟨v, r, rfl, h1, h2⟩ := h.uncons
  obtain ⟨u, t, rfl, h3, h4⟩ := h2.two
  exact ⟨v, u, t, rfl, h1, h3, h4⟩
theorem bind1 {fd : FuncData} {a : AV} {x : Str} (h : ∀ v, bindArgs fd ⟨[v], []⟩ = pure [(x, v)]) (s : Shared) (vs : List Value) (_ : (KF w).In s.heap) (r : RVs g [a] vs) :
    ∃ binds, BindsTo s fd ⟨vs, []⟩ binds ∧ binds.map (·.1) = [x] ∧ RVs g ([(x, a)].map (·.2)) (binds.map (·.2)) := by
  obtain ⟨v, rfl, h1⟩ := r.one
  exact ⟨_, .of_eq (h v), rfl, r⟩
theorem bind2 {fd : FuncData} {a b : AV} {x y : Str} (h : ∀ v u, bindArgs fd ⟨[v, u], []⟩ = pure [(x, v), (y, u)]) (s : Shared) (vs : List Value) (_ : (KF w).In s.heap) (r : RVs g [a, b] vs) :
    ∃ binds, BindsTo s fd ⟨vs, []⟩ binds ∧ binds.map (·.1) = [x, y] ∧ RVs g ([(x, a), (y, b)].map (·.2)) (binds.map (·.2)) := by
  obtain ⟨v, u, rfl, h1, h2⟩ := r.two
  exact ⟨_, .of_eq (h v u), rfl, r⟩
theorem bind3 {fd : FuncData} {a b c : AV} {x y z : Str} (h : ∀ v u t, bindArgs fd ⟨[v, u, t], []⟩ = pure [(x, v), (y, u), (z, t)]) (s : Shared) (vs : List Value) (_ : (KF w).In s.heap) (r : RVs g [a, b, c] vs) :
    ∃ binds, BindsTo s fd ⟨vs, []⟩ binds ∧ binds.map (·.1) = [x, y, z] ∧ RVs g ([(x, a), (y, b), (z, c)].map (·.2)) (binds.map (·.2)) := by
  obtain ⟨v, u, t, rfl, h1, h2⟩ := r.three
  exact ⟨_, .of_eq (h v u t), rfl, r⟩
end
section
variable {w : World} {A : Around} {env : Env} {g : Heap} {ρ : Vars} {μ : Mu} {P : Heap → AV → Mu → Prop}
theorem EX.sub {value slice : Expr} {pos : Pos} (h : EX w A env value g ρ μ fun g₁ o μ₁ => EX w A env slice g₁ ρ μ₁ fun g₂ i μ₂ => OX2 w A (subscriptTail value slice) o i g₂ μ₂ P) : EX w A env (.Subscript value slice pos) g ρ μ P := by
  intro s E Q R k
  refine Subscript_ (h.then R fun g₁ a μ₁ v₁ s₁ h₁ b₁ R₁ r₁ e₁ => ?_)
  obtain ⟨h', tk, rfl⟩ := e₁
  refine h₁.then R₁ fun g₂ b μ₂ v₂ s₂ h₂ b₂ R₂ r₂ e₂ => ?_
  obtain ⟨h'', tk', rfl⟩ := e₂
  exact h₂ _ _ _ _ _ R₂.B R₂.le R₂.mu (r₁.mono b₂.st.le) r₂ fun g' c μ' v h' tk p b r => k g' c μ' v h' tk p ((b₁.trans b₂).trans b) r
noncomputable def SubOk (value slice : Expr) : Prop := (∀ o i, subscripted slice false o i = operate [o, i] (getItem o i)) ∧ ∀ o r, letTemporaryGo value o r = pure ()
theorem OX2.itemM {value slice : Expr} {ad : Addr} {xs : List AV} {i : Int} {x : AV} (hs : SubOk value slice) (h0 : 0 ≤ i) (hz : i < 2 ^ 63) (hx : xs[i.toNat]? = some x) (h : P g x (some (.lst ad (xs)))) : OX2 w A (subscriptTail value slice) (.mlist ad) (.int i) g (some (.lst ad (xs))) P := by
  intro s E Q va vb B le M r1 r2 k
  obtain ⟨_, rfl⟩ := r1.inv; obtain ⟨_, rfl⟩ := r2.inv
  obtain ⟨_, us, hl, ru⟩ := M.lst
  obtain ⟨u, hu, rx⟩ := ru.get hx
  exact item_listL hl.isList h0 hz hu (k g x _ u s.heap s.toks h (.refl le M) rx) (hs.1 _ _) (hs.2 _)
theorem OX2.itemL {value slice : Expr} {xs : List AV} {i : Int} {x : AV} (hs : SubOk value slice) (h0 : 0 ≤ i) (hz : i < 2 ^ 63) (hx : xs[i.toNat]? = some x) (h : P g x μ) : OX2 w A (subscriptTail value slice) (.list xs) (.int i) g μ P := by
  intro s E Q va vb B le M r1 r2 k
  obtain ⟨_, rfl⟩ := r2.inv
  obtain ⟨a, us, rfl, hl, ru⟩ := r1.unlist
  obtain ⟨u, hu, rx⟩ := ru.get hx
  exact item_listL (hl.mono le).isList h0 hz hu (k g x _ u s.heap s.toks h (.refl le M) rx) (hs.1 _ _) (hs.2 _)
theorem OX2.itemB {value slice : Expr} {xs : List UInt8} {i : Int} (hs : SubOk value slice) (hl : xs.length ≤ 2 ^ 24) (h0 : 0 ≤ i) (hi : i < xs.length) (h : P g (.int (xs.getD i.toNat 0).toNat) μ) : OX2 w A (subscriptTail value slice) (.bytes xs) (.int i) g μ P := by
  intro s E Q va vb B le M r1 r2 k
  obtain ⟨_, rfl⟩ := r1.inv; obtain ⟨_, rfl⟩ := r2.inv
  exact bytes_item_K (by walk_at "om") h0 hi rfl (k g _ _ _ s.heap _ h (.refl le M) (.int ..)) (hs.1 _ _) (hs.2 _)
end
section
variable {w : World} {g : Heap} {P : Heap → AV → Mu → Prop}
noncomputable abbrev Ky := Addr × List UInt8
noncomputable abbrev avs (C : Addr) (ks : List Ky) : List AV := ks.map fun k => .inst C k.1 k.2
noncomputable def sd (lt : Ky → Ky → Bool) (new : Ky) (h : List Ky) (start pos : Nat) : List Ky :=
  if hp : start < pos then
    match h[(pos - 1) / 2]? with
    | some p => if lt new p then sd lt new (h.set pos p) start ((pos - 1) / 2) else h.set pos new
    | none => h.set pos new
  else h.set pos new
termination_by pos
decreasing_by walk_at "om"
noncomputable def Cmp (w : World) (n : Nat) (C : Addr) (lt : Ky → Ky → Bool) (g : Heap) : Prop :=
  ∀ (A : Around) (g' : Heap) (μ : Mu) (a b : Ky) (P : Heap → AV → Mu → Prop), Room A n → Le g g' → (∀ g'', Le g' g'' → P g'' (.bool (lt a b)) μ) → OX2 w A (compareOp .Lt) (.inst C a.1 a.2) (.inst C b.1 b.2) g' μ P
theorem avs_get {C : Addr} {ks : List Ky} {i : Nat} {k : Ky} (h : ks[i]? = some k) : (avs C ks)[i]? = some (.inst C k.1 k.2) := by simp [avs, h]
theorem avs_set {C : Addr} {ks : List Ky} {i : Nat} {k : Ky} : (avs C ks).set i (.inst C k.1 k.2) = avs C (ks.set i k) := by simp [avs]
theorem avs_len {C : Addr} {ks : List Ky} : (avs C ks).length = ks.length := by simp [avs]
noncomputable abbrev SdI (lt : Ky → Ky → Bool) (new : Ky) (ks : List Ky) (start pos : Nat) (C ad : Addr) (g : Heap) : Nat → Heap → Vars → Mu → Prop := fun k g' ρ' μ' => ∃ (p : Nat) (hs : List Ky), k = p ∧ Le g g' ∧ ρ' = [(Str.ofString "heap", .mlist ad), (Str.ofString "startpos", .int start), (Str.ofString "pos", .int p), (Str.ofString "newitem", .inst C new.1 new.2)] ∧ μ' = some (.lst ad (avs C hs)) ∧ hs.length = ks.length ∧ p < ks.length ∧ sd lt new hs start p = sd lt new ks start pos
theorem siftdown_CX {n : Nat} {C ad : Addr} {lt : Ky → Ky → Bool} {ks : List Ky} {start pos : Nat} {new : Ky} (hc : Cmp w n C lt g) (hz : ks.length ≤ 2 ^ 20) (hnew : ks[pos]? = some new)
    (hp : ∀ g', Le g g' → P g' .none (some (.lst ad (avs C (sd lt new ks start pos))))) : CX w (n + 1) (.ref 42) [.mlist ad, .int start, .int pos] g (some (.lst ad (avs C ks))) P := by
  refine CX.top (n := n) (ρ₀ := [(Str.ofString "heap", .mlist ad), (Str.ofString "startpos", .int start), (Str.ofString "pos", .int pos)]) (by exact rfl) (by exact rfl) (bind3 (x := Str.ofString "heap") (y := Str.ofString "startpos") (z := Str.ofString "pos") fun _ _ _ => rfl) rfl (by decide) (by decide) (by decide) (fun A L Rm => ?_)
  have hpos : pos < ks.length := (List.getElem?_eq_some_iff.mp hnew).1
  refine SX.cons (S1.assign (EX.sub ?_) (by exact .inl rfl))
  walk_at "nm"; walk_at "nm"
  refine OX2.itemM ⟨fun _ _ => rfl, fun _ _ => rfl⟩ (by walk_at "om") (by walk_at "om") (avs_get (by simpa using hnew)) ?_
  refine SX.cons (S1.while (SdI lt new ks start pos C ad g) ?_ pos ⟨pos, ks, rfl, .refl _, by rfl, rfl, rfl, hpos, rfl⟩)
  rintro p g' ρ' μ' ⟨_, hs, rfl, lg, rfl, rfl, hl, hpl, he⟩
  refine TX.cmp ?_
  walk_at "nm"; walk_at "nm"
  refine OX2.gt ⟨_, rfl, ?_⟩
  by_cases hlt : start < p
  · rw [if_pos (by simpa using hlt)]
    refine SX.forget ?_
    refine SX.cons (S1.assign (EX.bin (EX.bin ?_)) (by exact .inl rfl))
    walk_at "nm"; refine EX.cint (OX2.sub (EX.cint (OX2.shr (by decide) ?_)))
    have e1 : ((p : Int) - 1).fdiv (2 ^ (1 : Int).toNat) = (((p - 1) / 2 : Nat) : Int) := by
      rw [Int.fdiv_eq_ediv_of_nonneg _ (by decide)]
      have : ((p : Int) - 1) = ((p - 1 : Nat) : Int) := by walk_at "om"
      rw [this]; rfl
    rw [e1]
    have hpp : (p - 1) / 2 < hs.length := by walk_at "om"
    obtain ⟨par, hpar⟩ : ∃ par, hs[(p - 1) / 2]? = some par := ⟨_, List.getElem?_eq_getElem hpp⟩
    refine SX.cons (S1.assign (EX.sub ?_) (by exact .inl rfl))
    walk_at "nm"; walk_at "nm"
    refine OX2.itemM ⟨fun _ _ => rfl, fun _ _ => rfl⟩ (by walk_at "om") (by walk_at "om") (by rw [Int.toNat_natCast]; exact avs_get hpar) ?_
    refine SX.cons (S1.ite (TX.cmp ?_))
    walk_at "nm"; walk_at "nm"
    refine hc A _ _ new par _ Rm lg fun g₂ l₂ => ⟨_, rfl, ?_⟩
    rw [sd] at he
    rw [dif_pos hlt, hpar] at he
    dsimp only at he
    by_cases hb : lt new par = true
    · rw [if_pos hb] at he ⊢
      refine SX.cons (S1.setitem ?_)
      walk_at "nm"; walk_at "nm"; walk_at "nm"
      refine ⟨ad, _, _, rfl, rfl, rfl, by walk_at "om", by rw [avs_len]; walk_at "om", by rw [avs_len]; walk_at "om", ?_⟩
      refine SX.cons (S1.assign ?_ (by exact .inl rfl))
      walk_at "nm"
      refine SX.cons (S1.cont ?_)
      try dsimp only
      refine ⟨[(Str.ofString "heap", .mlist ad), (Str.ofString "startpos", .int start), (Str.ofString "pos", .int ((p - 1) / 2 : Nat)), (Str.ofString "newitem", .inst C new.1 new.2)], ⟨rfl, rfl, rfl, rfl, trivial⟩, (p - 1) / 2, by walk_at "om", (p - 1) / 2, hs.set p par, rfl, lg.trans l₂, rfl, ?_, by simp [hl], by walk_at "om", he⟩
      simp
    · rw [if_neg hb] at he ⊢
      refine SX.nil ?_
      try dsimp only
      refine SX.cons (S1.brk ?_)
      try dsimp only
      refine ⟨[(Str.ofString "heap", .mlist ad), (Str.ofString "startpos", .int start), (Str.ofString "pos", .int p), (Str.ofString "newitem", .inst C new.1 new.2)], ⟨rfl, rfl, rfl, rfl, trivial⟩, ?_⟩
      refine SX.cons (S1.setitem ?_)
      walk_at "nm"; walk_at "nm"; walk_at "nm"
      refine ⟨ad, _, _, rfl, rfl, rfl, by walk_at "om", by rw [avs_len]; walk_at "om", by rw [avs_len]; walk_at "om", SX.nil ?_⟩
      simp only [Int.toNat_natCast, avs_set, retOf]
      rw [he]; exact hp _ (lg.trans l₂)
  · rw [if_neg (by simpa using hlt)]
    refine SX.cons (S1.setitem ?_)
    walk_at "nm"; walk_at "nm"; walk_at "nm"
    refine ⟨ad, _, _, rfl, rfl, rfl, by walk_at "om", by rw [avs_len]; walk_at "om", by rw [avs_len]; walk_at "om", SX.nil ?_⟩
    rw [sd] at he
    rw [dif_neg hlt] at he
    simp only [Int.toNat_natCast, avs_set, retOf]
    rw [he]; exact hp _ lg
end
end Mine
set_option tactic.hygienic false
open PySem PySem.W PySem.Calls PyProof.Rows
set_option Elab.async false
set_option maxRecDepth 100000
set_option linter.unusedVariables false
namespace Mine
section
variable {w : World} {g : Heap} {P : Heap → AV → Mu → Prop}
noncomputable def pick (lt : Ky → Ky → Bool) (h : List Ky) (c : Nat) : Nat :=
  match h[c]?, h[c + 1]? with
  | some a, some b => if lt a b then c else c + 1
  | _, _ => c
theorem pick_ge {lt : Ky → Ky → Bool} {h : List Ky} {c : Nat} : c ≤ pick lt h c := by unfold pick; split; split <;> walk_at "om"; exact Nat.le_refl _
theorem pick_lt {lt : Ky → Ky → Bool} {h : List Ky} {c : Nat} (hc : c < h.length) : pick lt h c < h.length := by
  unfold pick
  split
  · rename_i hb
    have := (List.getElem?_eq_some_iff.mp hb).1
    split <;> walk_at "om"
  · exact hc
noncomputable def suL (lt : Ky → Ky → Bool) (h : List Ky) (pos : Nat) : List Ky × Nat :=
  if hp : 2 * pos + 1 < h.length then
    suL lt (h.set pos (h[pick lt h (2 * pos + 1)]'(pick_lt hp))) (pick lt h (2 * pos + 1))
  else (h, pos)
termination_by h.length - pos
decreasing_by
  have := pick_ge (lt := lt) (h := h) (c := 2 * pos + 1)
  have := pick_lt (lt := lt) hp
  simp only [List.length_set]; walk_at "om"
theorem suL_step {lt : Ky → Ky → Bool} {h : List Ky} {pos c : Nat} {x : Ky} (hp : 2 * pos + 1 < h.length) (hc : pick lt h (2 * pos + 1) = c) (hx : h[c]? = some x) : suL lt h pos = suL lt (h.set pos x) c := by
  subst hc
  obtain ⟨h1, rfl⟩ := List.getElem?_eq_some_iff.mp hx
  rw [suL, dif_pos hp]
theorem suL_end {lt : Ky → Ky → Bool} {h : List Ky} {pos : Nat} (hp : ¬ 2 * pos + 1 < h.length) : suL lt h pos = (h, pos) := by rw [suL, dif_neg hp]
theorem Cmp.le {n m : Nat} {C : Addr} {lt : Ky → Ky → Bool} (h : Cmp w n C lt g) (hn : n ≤ m) : Cmp w m C lt g := fun A g' μ a b P R l k => h A g' μ a b P (R.le hn) l k
theorem Cmp.to {n : Nat} {C : Addr} {lt : Ky → Ky → Bool} {g' : Heap} (h : Cmp w n C lt g) (l : Le g g') : Cmp w n C lt g' := fun A g'' μ a b P R l' k => h A g'' μ a b P R (l.trans l') k
theorem SX.join {A : Around} {env : Env} {st : Stmt} {rest : List Stmt} {ρ ρ₂ : Vars} {μ : Mu} {P : Heap → Fl → Vars → Mu → Prop} {J : Heap → Mu → Prop} (h : S1 w A env st g ρ μ fun g₁ f ρ₁ μ₁ => f = .next ∧ AllIn ρ₁ ρ₂ ∧ J g₁ μ₁)
    (k : ∀ g₁ μ₁, J g₁ μ₁ → SX w A env rest g₁ ρ₂ μ₁ P) : SX w A env (st :: rest) g ρ μ P :=
  SX.cons (h.mono fun g₁ f ρ₁ μ₁ ⟨e, i, j⟩ => by subst e; exact fun s E Q R c => k g₁ μ₁ j s E Q (R.forget i) c)
noncomputable def su (lt : Ky → Ky → Bool) (h : List Ky) : List Ky :=
  match h[0]? with
  | some new => let r := suL lt h 0; sd lt new (r.1.set r.2 new) 0 r.2
  | none => h
noncomputable abbrev SuI (lt : Ky → Ky → Bool) (new : Ky) (ks : List Ky) (C ad : Addr) (g : Heap) : Nat → Heap → Vars → Mu → Prop := fun k g' ρ' μ' => ∃ (p : Nat) (hs : List Ky), k = ks.length - p ∧ Le g g' ∧ ρ' = [(Str.ofString "heap", .mlist ad), (Str.ofString "pos", .int p), (Str.ofString "endpos", .int ks.length), (Str.ofString "startpos", .int 0), (Str.ofString "newitem", .inst C new.1 new.2), (Str.ofString "childpos", .int (2 * p + 1 : Nat))] ∧ μ' = some (.lst ad (avs C hs)) ∧ hs.length = ks.length ∧ p < ks.length ∧ suL lt hs p = suL lt ks 0
theorem siftup_CX {n : Nat} {C ad : Addr} {lt : Ky → Ky → Bool} {ks : List Ky} {new : Ky} (hc : Cmp w n C lt g) (hz : ks.length ≤ 2 ^ 20) (hnew : ks[0]? = some new)
    (hp : ∀ g', Le g g' → P g' .none (some (.lst ad (avs C (su lt ks))))) : CX w (n + 2) (.ref 49) [.mlist ad, .int 0] g (some (.lst ad (avs C ks))) P := by
  refine CX.top (n := n + 1) (ρ₀ := [(Str.ofString "heap", .mlist ad), (Str.ofString "pos", .int 0)]) (by exact rfl) (by exact rfl) (bind2 (x := Str.ofString "heap") (y := Str.ofString "pos") fun _ _ => rfl) rfl (by decide) (by decide) (by decide) (fun A L Rm => ?_)
  have hpos : 0 < ks.length := (List.getElem?_eq_some_iff.mp hnew).1
  refine SX.cons (S1.assign (EX.call (n := 0) (Rm.le (by walk_at "om")) ?_) (by exact .inl rfl))
  walk_at "bf"
  refine LX.cons ?_
  walk_at "nm"
  refine LX.nil (CX.lenM (by rw [avs_len]; walk_at "om") ?_)
  refine SX.cons (S1.assign ?_ (by exact .inl rfl))
  walk_at "nm"
  refine SX.cons (S1.assign (EX.sub ?_) (by exact .inl rfl))
  walk_at "nm"; walk_at "nm"
  refine OX2.itemM ⟨fun _ _ => rfl, fun _ _ => rfl⟩ (by walk_at "om") (by walk_at "om") (avs_get (by simpa using hnew)) ?_
  refine SX.cons (S1.assign (EX.bin (EX.bin (EX.cint ?_))) (by exact .inl rfl))
  walk_at "nm"
  refine OX2.mul (.of_left (by decide)) (EX.cint (OX2.add ?_))
  refine SX.cons (S1.while (SuI lt new ks C ad g) ?_ (ks.length - 0) ⟨0, ks, rfl, .refl _, by rw [avs_len]; rfl, rfl, rfl, hpos, rfl⟩)
  rintro k g' ρ' μ' ⟨p, hs, rfl, lg, rfl, rfl, hl, hpl, he⟩
  refine TX.cmp ?_
  walk_at "nm"; walk_at "nm"
  refine OX2.lt ⟨_, rfl, ?_⟩
  by_cases hlt : 2 * p + 1 < ks.length
  · rw [if_pos (by rw [decide_eq_true_eq]; exact_mod_cast hlt)]
    refine SX.forget ?_
    refine SX.cons (S1.assign (EX.bin ?_) (by exact .inl rfl))
    walk_at "nm"
    refine EX.cint (OX2.add ?_)
    have hcl : 2 * p + 1 < hs.length := by walk_at "om"
    have hk := pick_lt (lt := lt) hcl
    have hk' := pick_ge (lt := lt) (h := hs) (c := 2 * p + 1)
    obtain ⟨x, hx⟩ : ∃ x, hs[pick lt hs (2 * p + 1)]? = some x := ⟨_, List.getElem?_eq_getElem hk⟩
    have he' := (suL_step hcl rfl hx).symm.trans he
    obtain ⟨cl, hcl'⟩ : ∃ x, hs[2 * p + 1]? = some x := ⟨_, List.getElem?_eq_getElem hcl⟩
    refine SX.join (ρ₂ := [(Str.ofString "heap", .mlist ad), (Str.ofString "pos", .int p), (Str.ofString "endpos", .int ks.length), (Str.ofString "startpos", .int 0), (Str.ofString "newitem", .inst C new.1 new.2), (Str.ofString "childpos", .int (pick lt hs (2 * p + 1) : Nat))])
      (J := fun g₁ μ₁ => Le g' g₁ ∧ μ₁ = some (.lst ad (avs C hs))) (S1.ite (TX.chain (TXs.and (TX.cmp ?_)))) ?_
    · walk_at "nm"; walk_at "nm"
      refine OX2.lt ⟨_, rfl, ?_⟩
      by_cases hr : 2 * p + 1 + 1 < ks.length
      · rw [if_pos (by rw [decide_eq_true_eq]; exact_mod_cast hr)]
        obtain ⟨cr, hcr⟩ : ∃ x, hs[2 * p + 1 + 1]? = some x := ⟨_, List.getElem?_eq_getElem (by walk_at "om")⟩
        have hpk : pick lt hs (2 * p + 1) = if lt cl cr then 2 * p + 1 else 2 * p + 1 + 1 := by simp only [pick, hcl', hcr]
        refine TXs.and (TX.not (TX.cmp (EX.sub ?_)))
        walk_at "nm"; walk_at "nm"
        refine OX2.itemM ⟨fun _ _ => rfl, fun _ _ => rfl⟩ (by walk_at "om") (by walk_at "om") (by rw [Int.toNat_natCast]; exact avs_get hcl') (EX.sub ?_)
        walk_at "nm"; walk_at "nm"
        refine OX2.itemM ⟨fun _ _ => rfl, fun _ _ => rfl⟩ (by walk_at "om") (by walk_at "om") (avs_get (k := cr) (by rw [← hcr]; rfl)) ?_
        refine hc A _ _ cl cr _ (Rm.le (by walk_at "om")) lg fun g₂ l₂ => ⟨_, rfl, ?_⟩
        cases hb : lt cl cr with
        | true =>
          simp only [Bool.not_true, Bool.false_eq_true, if_false]
          refine SX.nil ⟨rfl, ⟨rfl, rfl, rfl, rfl, rfl, ?_, trivial⟩, l₂, rfl⟩
          rw [hpk, hb]; rfl
        | false =>
          simp only [Bool.not_false, if_true]
          refine TXs.andNil ?_
          simp only [if_true]
          refine SX.cons (S1.assign ?_ (by exact .inl rfl))
          walk_at "nm"
          refine SX.nil ⟨rfl, ⟨rfl, rfl, rfl, rfl, rfl, ?_, trivial⟩, l₂, rfl⟩
          rw [hpk, hb]; rfl
      · rw [if_neg (by rw [decide_eq_true_eq]; exact_mod_cast hr)]
        simp only [Bool.false_eq_true, if_false]
        refine SX.nil ⟨rfl, ⟨rfl, rfl, rfl, rfl, rfl, ?_, trivial⟩, .refl _, rfl⟩
        have hpk : pick lt hs (2 * p + 1) = 2 * p + 1 := by
          have : hs[2 * p + 1 + 1]? = none := List.getElem?_eq_none (by walk_at "om")
          simp only [pick, hcl', this]
        rw [hpk]; rfl
    · rintro g₂ _ ⟨l₂, rfl⟩
      refine SX.cons (S1.setitem (EX.sub ?_))
      walk_at "nm"; walk_at "nm"
      refine OX2.itemM ⟨fun _ _ => rfl, fun _ _ => rfl⟩ (by walk_at "om") (by walk_at "om") (by rw [Int.toNat_natCast]; exact avs_get hx) ?_
      walk_at "nm"; walk_at "nm"
      refine ⟨ad, _, _, rfl, rfl, rfl, by walk_at "om", by rw [avs_len]; walk_at "om", by rw [avs_len]; walk_at "om", ?_⟩
      refine SX.cons (S1.assign ?_ (by exact .inl rfl))
      walk_at "nm"
      refine SX.cons (S1.assign (EX.bin (EX.bin (EX.cint ?_))) (by exact .inl rfl))
      walk_at "nm"
      refine OX2.mul (.of_left (by decide)) (EX.cint (OX2.add ?_))
      refine SX.nil ⟨[(Str.ofString "heap", .mlist ad), (Str.ofString "pos", .int (pick lt hs (2 * p + 1) : Nat)), (Str.ofString "endpos", .int ks.length), (Str.ofString "startpos", .int 0), (Str.ofString "newitem", .inst C new.1 new.2), (Str.ofString "childpos", .int (2 * pick lt hs (2 * p + 1) + 1 : Nat))],
        ⟨rfl, rfl, rfl, rfl, rfl, rfl, trivial⟩, _, ?_, pick lt hs (2 * p + 1), hs.set p x, rfl, lg.trans l₂, rfl, by rw [Int.toNat_natCast, avs_set], by simp [hl], by walk_at "om", he'⟩
      walk_at "om"
  · rw [if_neg (by rw [decide_eq_true_eq]; exact_mod_cast hlt)]
    rw [suL_end (by walk_at "om")] at he
    refine SX.cons (S1.setitem ?_)
    walk_at "nm"; walk_at "nm"; walk_at "nm"
    refine ⟨ad, _, _, rfl, rfl, rfl, by walk_at "om", by rw [avs_len]; walk_at "om", by rw [avs_len]; walk_at "om", ?_⟩
    refine SX.cons (S1.expr (EX.call (n := n + 1) (Rm.le (by walk_at "om")) ?_))
    walk_at "fn"
    refine LX.cons ?_
    walk_at "nm"
    refine LX.cons ?_
    walk_at "nm"
    refine LX.cons ?_
    walk_at "nm"
    rw [Int.toNat_natCast, avs_set]
    refine LX.nil (siftdown_CX (start := 0) (new := new) (hc.to lg) (by rw [List.length_set]; walk_at "om") (by rw [List.getElem?_set_self (by walk_at "om")]) fun g₂ l₂ => ⟨rfl, SX.nil ?_⟩)
    have := hp g₂ (lg.trans l₂)
    simp only [su, hnew, ← he] at this
    exact this
noncomputable def pushed (lt : Ky → Ky → Bool) (ks : List Ky) (k : Ky) : List Ky := sd lt k (ks ++ [k]) 0 ks.length
theorem heappush_CX {n : Nat} {C ad : Addr} {lt : Ky → Ky → Bool} {ks : List Ky} {k : Ky} (hc : Cmp w n C lt g) (hz : ks.length < 2 ^ 20)
    (hp : ∀ g', Le g g' → P g' .none (some (.lst ad (avs C (pushed lt ks k))))) : CX w (n + 2) (.ref 28) [.mlist ad, .inst C k.1 k.2] g (some (.lst ad (avs C ks))) P := by
  refine CX.top (n := n + 1) (ρ₀ := [(Str.ofString "heap", .mlist ad), (Str.ofString "item", .inst C k.1 k.2)]) (by exact rfl) (by exact rfl) (bind2 (x := Str.ofString "heap") (y := Str.ofString "item") fun _ _ => rfl) rfl (by decide) (by decide) (by decide) (fun A L Rm => ?_)
  refine SX.cons (S1.expr (EX.meth (n := 0) (id := "list.append") (Rm.le (by walk_at "om")) ?_))
  walk_at "nm"
  refine ⟨GetM.append, LX.cons ?_⟩
  walk_at "nm"
  refine LX.nil (CX.append (by rw [avs_len]; walk_at "om") ⟨rfl, ?_⟩)
  refine SX.cons (S1.expr (EX.call (n := n + 1) (Rm.le (by walk_at "om")) ?_))
  walk_at "fn"
  refine LX.cons ?_
  walk_at "nm"
  refine LX.cons (EX.cint (LX.cons (EX.bin (EX.call (n := 0) (Rm.le (by walk_at "om")) ?_))))
  walk_at "bf"
  refine LX.cons ?_
  walk_at "nm"
  have ea : avs C ks ++ [.inst C k.1 k.2] = avs C (ks ++ [k]) := by simp [avs]
  rw [ea]
  refine LX.nil (CX.lenM (by rw [avs_len]; simp; walk_at "om") (EX.cint (OX2.sub ?_)))
  have el : ((avs C (ks ++ [k])).length : Int) - 1 = ks.length := by rw [avs_len]; simp
  rw [el]
  refine LX.nil (siftdown_CX (start := 0) (new := k) hc (by simp; walk_at "om") (by simp) fun g₂ l₂ => ⟨rfl, SX.nil (hp g₂ l₂)⟩)
theorem GetM.pop {ad : Addr} {xs : List AV} : GetM w (.mlist ad) "pop" "list.pop" g (some (.lst ad (xs))) := fun A s E Q pl va le M r q => by
  obtain ⟨_, rfl⟩ := r.inv
  obtain ⟨_, vs, ⟨ep, h2⟩, _⟩ := M.lst
  exact Copied.getMethod_pop_at h2 rfl rfl q
noncomputable def popped (lt : Ky → Ky → Bool) (ks : List Ky) : Option (Ky × List Ky) :=
  match ks.getLast? with
  | none => none
  | some l => match ks.dropLast with
    | [] => some (l, [])
    | r :: t => some (r, su lt (l :: t))
theorem heappop_CX {n : Nat} {C ad : Addr} {lt : Ky → Ky → Bool} {ks : List Ky} {k : Ky} {ks' : List Ky} (hc : Cmp w n C lt g) (hz : ks.length ≤ 2 ^ 20) (hpop : popped lt ks = some (k, ks'))
    (hp : ∀ g', Le g g' → P g' (.inst C k.1 k.2) (some (.lst ad (avs C ks')))) : CX w (n + 3) (.ref 35) [.mlist ad] g (some (.lst ad (avs C ks))) P := by
  refine CX.top (n := n + 2) (ρ₀ := [(Str.ofString "heap", .mlist ad)]) (by exact rfl) (by exact rfl) (bind1 (x := Str.ofString "heap") fun _ => rfl) rfl (by decide) (by decide) (by decide) (fun A L Rm => ?_)
  obtain ⟨ini, l, rfl⟩ : ∃ ini l, ks = ini ++ [l] := by
    by_cases h : ks = []
    · subst h; simp [popped] at hpop
    · exact ⟨ks.dropLast, ks.getLast h, (List.dropLast_concat_getLast h).symm⟩
  simp only [popped, List.getLast?_append, List.getLast?_singleton, Option.some_or, List.dropLast_concat] at hpop
  have ea : avs C (ini ++ [l]) = avs C ini ++ [.inst C l.1 l.2] := by simp [avs]
  have hz' : ini.length + 1 ≤ 2 ^ 20 := by simpa using hz
  rw [ea]
  refine SX.cons (S1.assign (EX.meth0 (n := 0) (id := "list.pop") (Rm.le (by walk_at "om")) ?_) (by exact .inl rfl))
  walk_at "nm"
  refine ⟨GetM.pop, CX.pop (by rw [← ea, avs_len]; simp; walk_at "om") ?_⟩
  refine SX.cons (S1.ite (TX.val ?_))
  walk_at "nm"
  refine OT.mlist (by rw [avs_len]; walk_at "om") ?_
  cases ini with
  | nil =>
    simp only at hpop
    cases hpop
    simp only [avs, List.map_nil, List.isEmpty_nil, Bool.not_true, Bool.false_eq_true, if_false]
    refine SX.nil (SX.cons (S1.ret ?_))
    walk_at "nm"
    exact hp _ (.refl _)
  | cons r t =>
    simp only at hpop
    cases hpop
    simp only [avs, List.map_cons, List.isEmpty_cons, Bool.not_false, if_true]
    refine SX.cons (S1.assign (EX.sub ?_) (by exact .inl rfl))
    walk_at "nm"
    refine EX.cint (OX2.itemM ⟨fun _ _ => rfl, fun _ _ => rfl⟩ (by walk_at "om") (by walk_at "om") rfl ?_)
    refine SX.cons (S1.setitem ?_)
    walk_at "nm"; walk_at "nm"
    refine EX.cint ⟨ad, _, _, rfl, rfl, rfl, by walk_at "om", by simp, by simp at hz' ⊢; walk_at "om", ?_⟩
    refine SX.cons (S1.expr (EX.call (n := n + 2) (Rm.le (by walk_at "om")) ?_))
    walk_at "fn"
    refine LX.cons ?_
    walk_at "nm"
    refine LX.cons (EX.cint (LX.nil ?_))
    refine siftup_CX (ks := l :: t) (new := l) hc (by simp only [List.length_cons] at hz' ⊢; walk_at "om") rfl fun g₂ l₂ => ⟨rfl, ?_⟩
    refine SX.cons (S1.ret ?_)
    walk_at "nm"
    exact hp _ l₂
end
end Mine
set_option tactic.hygienic true
open PySem PySem.W PySem.Calls PyProof.Rows
set_option Elab.async false
set_option maxRecDepth 100000
set_option linter.unusedVariables false
set_option linter.unusedSimpArgs false
namespace Mine
structure LtOk (lt : Ky → Ky → Bool) : Prop where
  asym : ∀ a b, lt a b = true → lt b a = false
  trans : ∀ a b c, lt b a = false → lt c b = false → lt c a = false
noncomputable def IsHeap (lt : Ky → Ky → Bool) (h : List Ky) : Prop := ∀ i a p, 0 < i → h[i]? = some a → h[(i - 1) / 2]? = some p → lt a p = false
structure Hole (lt : Ky → Ky → Bool) (h : List Ky) (pos : Nat) : Prop where
  off : ∀ i a p, 0 < i → i ≠ pos → (i - 1) / 2 ≠ pos → h[i]? = some a → h[(i - 1) / 2]? = some p → lt a p = false
  over : ∀ i a p, 0 < i → 0 < pos → (i - 1) / 2 = pos → h[i]? = some a → h[(pos - 1) / 2]? = some p → lt a p = false
theorem set_get {h : List Ky} {i j : Nat} {x a : Ky} (e : (h.set i x)[j]? = some a) : (j = i ∧ a = x) ∨ (j ≠ i ∧ h[j]? = some a) := by
  by_cases q : j = i
  · subst q
    rw [List.getElem?_set] at e
    simp only [if_true] at e
    split at e
    · cases e; exact .inl ⟨rfl, rfl⟩
    · cases e
  · rw [List.getElem?_set_ne (Ne.symm q)] at e; exact .inr ⟨q, e⟩
theorem Hole.fill {lt : Ky → Ky → Bool} {h : List Ky} {pos : Nat} {new : Ky} (H : Hole lt h pos) (h2 : ∀ i a, 0 < i → (i - 1) / 2 = pos → h[i]? = some a → lt a new = false) (h3 : 0 < pos → ∀ p, h[(pos - 1) / 2]? = some p → lt new p = false) : IsHeap lt (h.set pos new) := by
  intro i a p hi ea ep
  rcases set_get ea with ⟨rfl, rfl⟩ | ⟨n1, ea'⟩
  · rcases set_get ep with ⟨q, rfl⟩ | ⟨n2, ep⟩
    · walk_at "om"
    · exact h3 hi p ep
  · rcases set_get ep with ⟨q, rfl⟩ | ⟨n2, ep⟩
    · exact h2 i a hi q ea'
    · exact H.off i a p hi n1 n2 ea' ep
theorem sd_heap {lt : Ky → Ky → Bool} (L : LtOk lt) {new : Ky} : ∀ (pos : Nat) {h : List Ky}, Hole lt h pos → (∀ i a, 0 < i → (i - 1) / 2 = pos → h[i]? = some a → lt a new = false) → IsHeap lt (sd lt new h 0 pos) := by
  intro pos
  induction pos using Nat.strongRecOn with
  | ind pos ih =>
    intro h H h2
    rw [sd]
    by_cases hp : 0 < pos
    · rw [dif_pos hp]
      cases e : h[(pos - 1) / 2]? with
      | none => exact H.fill h2 fun _ p ep => by rw [e] at ep; cases ep
      | some p =>
        dsimp only
        by_cases hl : lt new p = true
        · rw [if_pos hl]
          refine ih _ (by walk_at "om") ⟨fun i a q hi n1 n2 ea eq => ?_, fun i a q hi hp' hq ea eq => ?_⟩ fun i a hi hq ea => ?_
          · rcases set_get ea with ⟨rfl, rfl⟩ | ⟨m1, ea'⟩
            · exact absurd rfl n2
            · rcases set_get eq with ⟨q1, rfl⟩ | ⟨m2, eq⟩
              · exact H.over i a _ hi hp q1 ea' e
              · exact H.off i a q hi m1 m2 ea' eq
          · have eq' : h[((pos - 1) / 2 - 1) / 2]? = some q := by
              rcases set_get eq with ⟨q1, _⟩ | ⟨_, eq⟩
              · walk_at "om"
              · exact eq
            have up := H.off ((pos - 1) / 2) p q hp' (by walk_at "om") (by walk_at "om") e eq'
            rcases set_get ea with ⟨rfl, rfl⟩ | ⟨m1, ea⟩
            · exact up
            · exact L.trans _ _ _ up (H.off i a p hi m1 (by walk_at "om") ea (by rw [hq]; exact e))
          · rcases set_get ea with ⟨rfl, rfl⟩ | ⟨m1, ea⟩
            · exact L.asym _ _ hl
            · exact L.trans _ _ _ (L.asym _ _ hl) (H.off i a p hi m1 (by walk_at "om") ea (by rw [hq]; exact e))
        · rw [if_neg hl]
          exact H.fill h2 fun _ q eq => by rw [e] at eq; cases eq; simpa using hl
    · rw [dif_neg hp]
      exact H.fill h2 fun hp' => absurd hp' hp
theorem set_swap {h : List Ky} {i j : Nat} {p new : Ky} (hi : i < h.length) (hj : h[j]? = some p) (hij : i ≠ j) : ((h.set i p).set j new).Perm (h.set i new) := by
  obtain ⟨hj', e⟩ := List.getElem?_eq_some_iff.mp hj
  have := List.set_set_perm (as := h.set i new) (i := i) (j := j) (by simpa using hi) (by simpa using hj')
  simp only [List.getElem_set_self, List.set_set, List.getElem_set_ne hij, e] at this
  exact this
theorem sd_perm {lt : Ky → Ky → Bool} {new : Ky} : ∀ (pos : Nat) {h : List Ky}, pos < h.length → (sd lt new h 0 pos).Perm (h.set pos new) := by
  intro pos
  induction pos using Nat.strongRecOn with
  | ind pos ih =>
    intro h hl
    rw [sd]
    split
    · rename_i hp
      split
      · rename_i p e
        split
        · refine (ih _ (by walk_at "om") (by rw [List.length_set]; walk_at "om")).trans ?_
          exact set_swap hl e (by walk_at "om")
        · exact .refl _
      · exact .refl _
    · exact .refl _
theorem IsHeap.hole {lt : Ky → Ky → Bool} {ks : List Ky} {k : Ky} (H : IsHeap lt ks) : Hole lt (ks ++ [k]) ks.length where
  off := fun i a p hi n1 n2 ea ep => by
    have h1 := (List.getElem?_eq_some_iff.mp ea).1
    have h2 := (List.getElem?_eq_some_iff.mp ep).1
    simp only [List.length_append, List.length_cons, List.length_nil] at h1 h2
    rw [List.getElem?_append_left (by walk_at "om")] at ea ep
    exact H i a p hi ea ep
  over := fun i a p hi hp hq ea ep => by
    have h1 := (List.getElem?_eq_some_iff.mp ea).1
    simp only [List.length_append, List.length_cons, List.length_nil] at h1
    walk_at "om"
theorem pushed_heap {lt : Ky → Ky → Bool} (L : LtOk lt) {ks : List Ky} {k : Ky} (H : IsHeap lt ks) : IsHeap lt (pushed lt ks k) := sd_heap L _ H.hole fun i a hi hq ea => by
  have h1 := (List.getElem?_eq_some_iff.mp ea).1
  simp only [List.length_append, List.length_cons, List.length_nil] at h1
  walk_at "om"
theorem pushed_perm {lt : Ky → Ky → Bool} {ks : List Ky} {k : Ky} : (pushed lt ks k).Perm (ks ++ [k]) := by
  have := sd_perm (lt := lt) (new := k) ks.length (h := ks ++ [k]) (by simp)
  have e : (ks ++ [k]).set ks.length k = ks ++ [k] := by simp
  rw [e] at this
  exact this
theorem suL_spec {lt : Ky → Ky → Bool} (L : LtOk lt) {new : Ky} : ∀ (n pos : Nat) {h : List Ky}, h.length - pos ≤ n → pos < h.length → Hole lt h pos →
    (suL lt h pos).2 < (suL lt h pos).1.length ∧ Hole lt (suL lt h pos).1 (suL lt h pos).2 ∧ ¬ 2 * (suL lt h pos).2 + 1 < (suL lt h pos).1.length ∧ ((suL lt h pos).1.set (suL lt h pos).2 new).Perm (h.set pos new) := by
  intro n
  induction n with
  | zero => intro pos h hn hp; walk_at "om"
  | succ n ih =>
    intro pos h hn hp H
    by_cases hc : 2 * pos + 1 < h.length
    · obtain ⟨x, hx⟩ : ∃ x, h[pick lt h (2 * pos + 1)]? = some x := ⟨_, List.getElem?_eq_getElem (pick_lt hc)⟩
      rw [suL_step hc rfl hx]
      have g1 := pick_ge (lt := lt) (h := h) (c := 2 * pos + 1)
      have g2 := pick_lt (lt := lt) hc
      have g3 : pick lt h (2 * pos + 1) = 2 * pos + 1 ∨ pick lt h (2 * pos + 1) = 2 * pos + 2 := by
        unfold pick
        split
        · split
          · exact .inl rfl
          · exact .inr rfl
        · exact .inl rfl
      have least : ∀ i a, 0 < i → (i - 1) / 2 = pos → h[i]? = some a → i ≠ pick lt h (2 * pos + 1) → lt a x = false := by
        intro i a hi hq ea hne
        have hi' : i = 2 * pos + 1 ∨ i = 2 * pos + 2 := by walk_at "om"
        unfold pick at hx hne
        cases e1 : h[2 * pos + 1]? with
        | none => exact absurd (List.getElem?_eq_none_iff.mp e1) (by walk_at "om")
        | some u =>
          rw [e1] at hx hne
          cases e2 : h[2 * pos + 1 + 1]? with
          | none =>
            rw [e2] at hx hne
            dsimp only at hx hne
            have := (List.getElem?_eq_some_iff.mp ea).1
            have := List.getElem?_eq_none_iff.mp e2
            walk_at "om"
          | some v =>
            rw [e2] at hx hne
            dsimp only at hx hne
            by_cases hl : lt u v = true
            · rw [if_pos hl] at hx hne
              have : i = 2 * pos + 1 + 1 := by walk_at "om"
              subst this
              rw [e2] at ea; rw [e1] at hx; cases ea; cases hx
              exact L.asym _ _ hl
            · rw [if_neg hl] at hx hne
              have : i = 2 * pos + 1 := by walk_at "om"
              subst this
              rw [e1] at ea; rw [e2] at hx; cases ea; cases hx
              simpa using hl
      generalize pick lt h (2 * pos + 1) = c at *
      have H' : Hole lt (h.set pos x) c := by
        refine ⟨fun i a q hi n1 n2 ea eq => ?_, fun i a q hi hp' hq ea eq => ?_⟩
        · rcases set_get ea with ⟨rfl, rfl⟩ | ⟨m1, ea'⟩
          · rcases set_get eq with ⟨q1, rfl⟩ | ⟨m2, eq⟩
            · walk_at "om"
            · exact H.over c _ q (by walk_at "om") hi (by walk_at "om") hx eq
          · rcases set_get eq with ⟨q1, rfl⟩ | ⟨m2, eq⟩
            · exact least i a hi q1 ea' n1
            · exact H.off i a q hi m1 m2 ea' eq
        · rcases set_get ea with ⟨rfl, rfl⟩ | ⟨m1, ea'⟩
          · walk_at "om"
          · have hcp : (c - 1) / 2 = pos := by walk_at "om"
            rcases set_get eq with ⟨q1, rfl⟩ | ⟨m2, eq⟩
            · exact H.off i a _ hi m1 (by walk_at "om") ea' (by rw [hq]; exact hx)
            · exact absurd hcp m2
      have ihh := ih c (h := h.set pos x) (by rw [List.length_set]; walk_at "om") (by rw [List.length_set]; exact g2) H'
      refine ⟨ihh.1, ihh.2.1, ihh.2.2.1, ihh.2.2.2.trans ?_⟩
      exact set_swap hp hx (by walk_at "om")
    · rw [suL_end hc]
      exact ⟨hp, H, hc, .refl _⟩
theorem su_spec {lt : Ky → Ky → Bool} (L : LtOk lt) {h : List Ky} {new : Ky} (h0 : h[0]? = some new) (H : Hole lt h 0) : IsHeap lt (su lt h) ∧ (su lt h).Perm h := by
  have hl : 0 < h.length := (List.getElem?_eq_some_iff.mp h0).1
  obtain ⟨s1, s2, s3, s4⟩ := suL_spec L (new := new) h.length 0 (by walk_at "om") hl H
  unfold su
  rw [h0]
  dsimp only
  generalize (suL lt h 0) = r at *
  refine ⟨sd_heap L _ ⟨fun i a q hi n1 n2 ea eq => ?_, fun i a q hi hp' hq ea eq => ?_⟩ fun i a hi hq ea => ?_, (sd_perm _ (by rw [List.length_set]; exact s1)).trans ?_⟩
  · rcases set_get ea with ⟨e1, _⟩ | ⟨m1, ea⟩
    · exact absurd e1 n1
    · rcases set_get eq with ⟨q1, rfl⟩ | ⟨m2, eq⟩
      · exact absurd q1 n2
      · exact s2.off i a q hi n1 n2 ea eq
  · rcases set_get ea with ⟨rfl, rfl⟩ | ⟨m1, ea⟩
    · walk_at "om"
    · have := (List.getElem?_eq_some_iff.mp ea).1; walk_at "om"
  · rcases set_get ea with ⟨rfl, rfl⟩ | ⟨m1, ea⟩
    · walk_at "om"
    · have := (List.getElem?_eq_some_iff.mp ea).1; walk_at "om"
  · rw [List.set_set]
    refine s4.trans ?_
    have e : h.set 0 new = h := by
      obtain ⟨h1, e⟩ := List.getElem?_eq_some_iff.mp h0
      rw [← e]; simp
    rw [e]
theorem root_min {lt : Ky → Ky → Bool} (L : LtOk lt) {h : List Ky} {r : Ky} (H : IsHeap lt h) (h0 : h[0]? = some r) : ∀ (i : Nat) (a : Ky), h[i]? = some a → lt a r = false := by
  intro i
  induction i using Nat.strongRecOn with
  | ind i ih =>
    intro a ea
    by_cases hi : 0 < i
    · have hl := (List.getElem?_eq_some_iff.mp ea).1
      obtain ⟨p, ep⟩ : ∃ p, h[(i - 1) / 2]? = some p := ⟨_, List.getElem?_eq_getElem (by walk_at "om")⟩
      exact L.trans _ _ _ (ih _ (by walk_at "om") p ep) (H i a p hi ea ep)
    · have : i = 0 := by walk_at "om"
      subst this
      rw [h0] at ea; cases ea
      cases q : lt r r with
      | false => rfl
      | true => exact (L.asym _ _ q).symm.trans q |>.symm ▸ rfl
theorem popped_spec {lt : Ky → Ky → Bool} (L : LtOk lt) {ks : List Ky} (H : IsHeap lt ks) (hne : ks ≠ []) : ∃ k ks', popped lt ks = some (k, ks') ∧ IsHeap lt ks' ∧ ks.Perm (k :: ks') ∧ ∀ a ∈ ks, lt a k = false := by
  obtain ⟨ini, l, rfl⟩ : ∃ ini l, ks = ini ++ [l] := ⟨ks.dropLast, ks.getLast hne, (List.dropLast_concat_getLast hne).symm⟩
  unfold popped
  simp only [List.getLast?_append, List.getLast?_singleton, Option.some_or, List.dropLast_concat]
  have hall : ∀ {r}, (ini ++ [l])[0]? = some r → ∀ a ∈ ini ++ [l], lt a r = false := fun h0 a ha => by
    obtain ⟨i, hi, rfl⟩ := List.getElem_of_mem ha
    exact root_min L H h0 i _ (List.getElem?_eq_getElem hi)
  cases ini with
  | nil => exact ⟨l, [], rfl, fun i a p hi ea => by simp at ea, .refl _, hall rfl⟩
  | cons r t =>
    have hole : Hole lt (l :: t) 0 := by
      refine ⟨fun i a p hi n1 n2 ea ep => ?_, fun i a p hi hp => absurd hp (by walk_at "om")⟩
      have e : ∀ j, 0 < j → ∀ x, (l :: t)[j]? = some x → ((r :: t) ++ [l])[j]? = some x := fun j hj x ex => by
        have := (List.getElem?_eq_some_iff.mp ex).1
        rw [List.getElem?_append_left (by simpa using this)]
        obtain ⟨j, rfl⟩ : ∃ k, j = k + 1 := ⟨j - 1, by walk_at "om"⟩
        simpa using ex
      exact H i a p hi (e i hi a ea) (e _ (by walk_at "om") p ep)
    obtain ⟨s1, s2⟩ := su_spec L (h := l :: t) rfl hole
    refine ⟨r, su lt (l :: t), rfl, s1, ?_, hall rfl⟩
    refine List.Perm.trans ?_ (s2.symm.cons r)
    exact (List.perm_append_comm (l₁ := t) (l₂ := [l])).cons r
end Mine
set_option tactic.hygienic false
open PySem PySem.W PySem.Calls PyProof.Rows
set_option Elab.async false
set_option maxRecDepth 100000
set_option linter.unusedVariables false
namespace Mine
section
variable {w : World} {A : Around}
theorem Src.list {xs : List AV} (hh : A.handled = none) : Src w A (.list xs) xs := by
  intro g s E Q va B le r k
  obtain ⟨a, us, rfl, hl, ru⟩ := r.unlist
  have hls : s.heap.IsList a us.toArray := (hl.mono le).isList
  have hg : ∃ o, g.get? a = some o := let ⟨n, e⟩ := hl; ⟨_, e⟩
  have hlt : a < s.heap.objs.size := by obtain ⟨o, e⟩ := hg; exact Heap.lt_size (le _ _ e)
  refine wpAny_pyIter_list hls ?_
  have W := Walks.list (prog := PR) (w := w) hh s.heap.objs.size a (Nat.ne_of_lt hlt) us.toArray
  rw [show us.toArray.size = xs.length by rw [List.size_toArray]; exact ru.1] at W
  refine k _ _ _ _ _ _ (fun b hb => ?_) (fun b hb => ?_) W (fun i v hv => ?_) (fun i h st => ⟨(let ⟨⟨o, ho, hc, _⟩, _⟩ := st; ⟨o, _, ho, hc, by decide⟩), fun b hb => ?_⟩) ⟨⟨_, Heap.get?_push_size _ rfl, rfl, rfl⟩, hls.at fun o e => Heap.get?_push_of_some _ e⟩ (le_push _ _)
  · rw [List.mem_singleton.mp hb]; exact fresh_size _
  · rcases List.mem_cons.mp hb with rfl | hb
    · exact .inl (.head _)
    · rw [List.mem_singleton.mp hb]; exact .inr (Option.isSome_iff_exists.mpr hg)
  · have hv' : us[i]? = some v := by simpa using hv
    have hi : i < xs.length := by rw [← ru.1]; exact (List.getElem?_eq_some_iff.mp hv').1
    exact ⟨xs[i], List.getElem?_eq_getElem hi, ru.2 i _ v (List.getElem?_eq_getElem hi) hv'⟩
  · rw [List.mem_singleton.mp hb]; obtain ⟨⟨o, ho, _⟩, _⟩ := st; exact ⟨o, ho⟩
theorem Src.bytes {b : List UInt8} (hh : A.handled = none) : Src w A (.bytes b) (b.map fun c => .int c.toNat) := by
  intro g s E Q va B le r k
  obtain ⟨t, rfl⟩ := r.inv
  refine KBw.pyIter_bytes ?_
  have W := KBw.walks (prog := PR) (w := w) hh s.heap.objs.size b.toArray t
  have hn : b.toArray.size = (b.map fun c => AV.int c.toNat).length := by simp
  rw [hn] at W
  refine k _ _ _ _ _ _ (fun c hb => ?_) (fun c hb => ?_) W (fun i v hv => ?_) (fun i h st => ⟨(let ⟨o, ho, hc, _⟩ := st; ⟨o, _, ho, hc, by decide⟩), fun c hb => ?_⟩) ⟨_, Heap.get?_push_size _ rfl, rfl, rfl⟩ (le_push _ _)
  · rw [List.mem_singleton.mp hb]; exact fresh_size _
  · exact .inl hb
  · obtain ⟨c, u, hc, rfl⟩ := hv
    have hc' : b[i]? = some c := by simpa using hc
    exact ⟨.int c.toNat, by simp [hc'], .int ..⟩
  · rw [List.mem_singleton.mp hb]; obtain ⟨o, ho, _⟩ := st; exact ⟨o, ho⟩
theorem Src.rng {a b c : Int} {n : Nat} (hh : A.handled = none) (hs : Builtin.Range.small a b c = true) (hn : Builtin.Range.rangeSize a b c = (n : Int)) : Src w A (.rng a b c) ((List.range n).map fun i => .int (a + (i : Nat) * c)) := by
  intro g s E Q va B le r k
  obtain ⟨_, _, _, _, rfl, h⟩ := r.inv
  refine wpAny_pyIter_range (le _ _ h) hs ?_
  have W := (Walks.range (prog := PR) (w := w) hh s.heap.objs.size a c n).bound
  have hn' : n = ((List.range n).map fun i => AV.int (a + (i : Nat) * c)).length := by simp
  rw [hn'] at W
  refine k _ _ _ _ _ _ (fun d hb => ?_) (fun d hb => ?_) W (fun i v hv => ?_) (fun i h st => ⟨⟨_, _, st, rfl, by decide⟩, fun d hb => ?_⟩) ?_ (le_push _ _)
  · rw [List.mem_singleton.mp hb]; exact fresh_size _
  · exact .inl hb
  · obtain ⟨hi, t, rfl⟩ := hv
    rw [← hn'] at hi
    exact ⟨.int (a + (i : Nat) * c), by simp [hi], .int ..⟩
  · rw [List.mem_singleton.mp hb]; exact ⟨_, st⟩
  · show IsRangeIter _ _ _ _ _
    rw [hn]; simpa using Heap.get?_push_size _ rfl
end
section
variable {w : World} {A : Around} {E : Value → Shared → Prop} {s : Shared}
theorem unpackItems_list2 {l : Addr} {v u : Value} {Q : List Value → Shared → Prop} (hh : A.handled = none) (hl : s.heap.IsList l #[v, u])
    (hQ : ∀ h', Heap.ExtBut s.heap.objs.size s.heap h' → Q [v, u] { s with heap := h' }) : wpAny (model PR w) A (unpackItems (.ref l) 2 none) Q E s := by
  have hne : l ≠ s.heap.objs.size := by obtain ⟨o, ho, _⟩ := hl; exact Nat.ne_of_lt (Heap.lt_size ho)
  unfold unpackItems
  refine wpAny_bind ?_
  unfold notIterableAtAll
  refine wpAny_bind (wpAny_specialOf hl.typeIs slot_list_iter.lookup ?_)
  refine wpAny_pure ?_
  simp only [Bool.false_eq_true, if_false]
  refine wpAny_bind (wpAny_holding (wpAny_pyIter_list hl ?_))
  have hls : (s.heap.push { cls := .type "list_iterator", data := .fields #[.ref l, .int 0 0] }).IsList l #[v, u] := hl.at fun o e => Heap.get?_push_of_some _ e
  have hit : (s.heap.push { cls := .type "list_iterator", data := .fields #[.ref l, .int 0 0] }).IsListIter s.heap.objs.size l 0 := ⟨_, Heap.get?_push_size _ rfl, rfl, rfl⟩
  refine wpAny_bind (wpAny_holding ?_)
  unfold draw
  refine wpAny_bind (wpAny_pyNext_list_item hit hls (x := v) rfl fun h₁ hit₁ hs₁ => ?_)
  refine wpAny_bind (wpAny_holding ?_)
  unfold draw
  have hl₁ := hls.extBut hs₁.extBut hne
  refine wpAny_bind (wpAny_pyNext_list_item hit₁ hl₁ (x := u) rfl fun h₂ hit₂ hs₂ => ?_)
  have hl₂ := hl₁.extBut hs₂.extBut hne
  refine wpAny_bind (wpAny_holding (wpAny_pure (wpAny_pure (wpAny_pure ?_))))
  rw [if_neg (by simp)]
  refine wpAny_bind (wpAny_holding (wpAny_pyNext_list_end hh hit₂ hl₂ rfl fun h₃ he₃ => ?_))
  simp only [Option.isSome_none, Bool.false_eq_true, if_false]
  exact wpAny_pure (hQ h₃ fun b o hb e => he₃ b o hb (hs₂.extBut b o hb (hs₁.extBut b o hb (Heap.get?_push_of_some _ e))))
theorem assign_Tuple_list2 {env : Env} {e₁ e₂ : Expr} {n : Nat} {pos : Pos} {l : Addr} {v u : Value} {Q : Unit → Shared → Prop} (hh : A.handled = none) (hl : s.heap.IsList l #[v, u])
    (hn : assignEach [e₁, e₂] env = [(false, assign e₁ env), (false, assign e₂ env)])
    (h : ∀ h', Heap.ExtBut s.heap.objs.size s.heap h' → wpAny (model PR w) A (assign e₁ env v) (fun _ s' => wpAny (model PR w) A (assign e₂ env u) Q E s') E { s with heap := h' }) :
    wpAny (model PR w) A (assign (.Tuple [e₁, e₂] n pos) env (.ref l)) Q E s := by
  rw [assign_Tuple]
  refine wpAny_bind (wpAny_standAt ?_)
  unfold unpack
  rw [hn]
  refine wpAny_bind (wpAny_holding (unpackItems_list2 hh hl fun h' hx => ?_))
  show wpAny _ _ (assignInOrder [assign e₁ env, assign e₂ env] [v, u]) _ _ _
  refine assignInOrder_cons (wpAny_mono (h h' hx) (fun _ s₁ h₁ => ?_) fun _ _ e => e)
  exact assignInOrder_cons (wpAny_mono h₁ (fun _ s₂ h₂ => assignInOrder_nil h₂) fun _ _ e => e)
end
end Mine
set_option tactic.hygienic false
open PySem PySem.W PySem.Calls PyProof.Rows
set_option Elab.async false
set_option maxRecDepth 100000
set_option linter.unusedVariables false
namespace Mine
section
variable {w : World} {A : Around} {env : Env} {g : Heap} {ρ : Vars} {μ : Mu}
theorem Bk.transF {Fx : Addr → Prop} {μ₀ μ μ' : Mu} {g₀ h₀ g h g' h' : Heap} (x : Bk w noF μ₀ g₀ h₀ μ g h) (y : Bk w Fx μ g h μ' g' h') (hF : ∀ b, Fx b → h₀.get? b = none) : Bk w noF μ₀ g₀ h₀ μ' g' h' :=
  ⟨⟨x.st.le.trans y.st.le, fun b o e => (y.st.fresh b o e).elim (x.st.fresh b o) fun q => .inr (dom_none x.st.dom q),
    fun b o e f m => y.st.kp b o (x.st.kp b o e f m) (fun q => (by rw [hF b q] at e; cases e)) fun m' => (x.st.mu b m').elim m fun q => (by rw [q] at e; cases e),
    fun b o e => let ⟨o₁, e₁⟩ := x.st.dom b o e; y.st.dom b o₁ e₁, fun b m => (y.st.mu b m).elim (x.st.mu b) fun q => .inr (dom_none x.st.dom q)⟩, y.le, y.mu⟩
theorem Bk.freeze {Fx : Addr → Prop} {μ₀ μ : Mu} {g₀ h₀ g h : Heap} (x : Bk w Fx μ₀ g₀ h₀ μ g h) (S : Addr → Bool) (hS : ∀ b, S b = true → h₀.get? b = none ∧ ¬ mad μ b) :
    ∃ g', Bk w Fx μ₀ g₀ h₀ μ g' h ∧ Le g g' ∧ (∀ b o, S b = true → h.get? b = some o → g'.get? b = some o) ∧ (∀ b o, g'.get? b = some o → g.get? b = some o ∨ S b = true) := by
  refine ⟨grow g h S, ⟨⟨x.st.le.trans (grow_le x.le), fun b o e => ?_, x.st.kp, x.st.dom, x.st.mu⟩, grow_in, x.mu.keep (grow_le x.le) (fun _ _ _ e => e) fun b m => ?_⟩, grow_le x.le, fun b o q e => grow_new q e, fun b o e => grow_old x.le e⟩
  · rcases grow_old x.le e with q | q
    · exact x.st.fresh b o q
    · exact .inr (hS b q).1
  · cases q : (grow g h S).get? b with
    | none => rfl
    | some o =>
      rcases grow_old x.le q with r | r
      · rw [x.mu.off b m] at r; cases r
      · exact absurd m (hS b r).2
noncomputable def AsL (w : World) (A : Around) (env : Env) (target : Expr) (v : AV) (g : Heap) (ρ : Vars) (μ : Mu) (ρ' : Vars) : Prop :=
  ∀ (s : Shared) (E : Value → Shared → Prop) (Q : Unit → Shared → Prop) (va : Value), Rel w g env ρ μ s.heap → RV g v va →
    (∀ h' tk, Bk w (· = env.locals) μ g s.heap μ g h' → Rel w g env ρ' μ h' → Q () { s with heap := h', toks := tk }) → wpAny (model PR w) A (assign target env va) Q E s
theorem AsL.name {x : Str} {p : Pos} {v : AV} (hk : env.kindOf x = some .local) : AsL w A env (.Name x p) v g ρ μ (setv ρ x v) := fun s E Q va R r k => wpAny_assign_Name (store_loc0 R hk r k)
theorem Stp.ext {Fx : Addr → Prop} {h h' : Heap} (kp : Le h h') (le : Le g h) (M : MuRel g μ h) : Bk w Fx μ g h μ g h' :=
  ⟨⟨.refl _, fun _ _ e => .inl e, fun b o e _ _ => kp b o e, kp.dom, fun _ e => .inl e⟩, le.trans kp, M.keep (.refl _) (fun b _ o e => kp b o e) M.off⟩
theorem AsL.pair {e₁ e₂ : Expr} {n : Nat} {p : Pos} {v u : AV} {ρ₁ ρ₂ : Vars} (hh : A.handled = none) (h1 : AsL w A env e₁ v g ρ μ ρ₁) (h2 : AsL w A env e₂ u g ρ₁ μ ρ₂) (hn : assignEach [e₁, e₂] env = [(false, assign e₁ env), (false, assign e₂ env)] := by rfl) :
    AsL w A env (.Tuple [e₁, e₂] n p) (.list [v, u]) g ρ μ ρ₂ := by
  intro s E Q va R r k
  obtain ⟨a, us, rfl, hl, ru⟩ := r.unlist
  obtain ⟨x, y, rfl, r1, r2⟩ := ru.two
  refine assign_Tuple_list2 hh (hl.mono R.le).isList hn fun h' hx => ?_
  have kp : Le s.heap h' := fun b o e => hx b o (Nat.ne_of_lt (Heap.lt_size e)) e
  have b₀ : Bk w noF μ g s.heap μ g h' := Stp.ext kp R.le R.mu
  refine h1 _ _ _ x (R.step b₀) r1 fun h₁ tk₁ b₁ R₁ => ?_
  exact h2 _ _ _ y R₁ r2 fun h₂ tk₂ b₂ R₂ => k h₂ tk₂ ((b₀.weak.trans b₁).trans b₂) R₂
theorem AsX.pair {e₁ e₂ : Expr} {n : Nat} {p : Pos} {v u : AV} {ρ₁ ρ₂ : Vars} (hh : A.handled = none) (h1 : AsX w A env e₁ v g ρ μ ρ₁) (h2 : AsX w A env e₂ u g ρ₁ μ ρ₂) (hn : assignEach [e₁, e₂] env = [(false, assign e₁ env), (false, assign e₂ env)] := by rfl) :
    AsX w A env (.Tuple [e₁, e₂] n p) (.list [v, u]) g ρ μ ρ₂ := by
  intro s E Q va R r k
  obtain ⟨a, us, rfl, hl, ru⟩ := r.unlist
  obtain ⟨x, y, rfl, r1, r2⟩ := ru.two
  refine assign_Tuple_list2 hh (hl.mono R.le).isList hn fun h' hx => ?_
  have kp : Le s.heap h' := fun b o e => hx b o (Nat.ne_of_lt (Heap.lt_size e)) e
  have b₀ : Bk w noF μ g s.heap μ g h' := Stp.ext kp R.le R.mu
  refine h1 _ _ _ x (R.step b₀) r1 fun h₁ tk₁ b₁ R₁ => ?_
  exact h2 _ _ _ y R₁ r2 fun h₂ tk₂ b₂ R₂ => k h₂ tk₂ ((b₀.weak.trans b₁).trans b₂) R₂
structure CS (w : World) (env : Env) (D : Addr) (wr : List Addr) (μ₀ : Mu) (g₀ h₀ g : Heap) (ρ : Vars) (μ : Mu) (acc : List AV) (h : Heap) : Prop where
  bk : Bk w noF μ₀ g₀ h₀ μ g h
  R : Rel w g env ρ μ h
  as : Aside (D :: wr) env μ g h₀
  al : ∀ b ∈ wr, ∃ o, h.get? b = some o
  ac : ∃ vs, LstAt h D vs ∧ RVs g acc vs
  hC : h₀.get? env.locals = none
  hD : D ∉ wr
variable {D : Addr} {wr : List Addr} {μ₀ : Mu} {g₀ h₀ h : Heap} {acc : List AV}
theorem CS.aliveD (c : CS w env D wr μ₀ g₀ h₀ g ρ μ acc h) : ∀ b ∈ D :: wr, ∃ o, h.get? b = some o := fun b hb => by
  rcases List.mem_cons.mp hb with rfl | hb
  · obtain ⟨vs, ⟨n, e⟩, _⟩ := c.ac; exact ⟨_, e⟩
  · exact c.al b hb
theorem CS.expr {g' h' : Heap} {μ' : Mu} (c : CS w env D wr μ₀ g₀ h₀ g ρ μ acc h) (y : Bk w noF μ g h μ' g' h') : CS w env D wr μ₀ g₀ h₀ g' ρ μ' acc h' ∧ ∀ b ∈ D :: wr, ∀ o, h.get? b = some o → h'.get? b = some o := by
  have kd : ∀ b ∈ D :: wr, ∀ o, h.get? b = some o → h'.get? b = some o := fun b hb o e => y.st.kp b o e (fun f => f) (c.as.mu b hb)
  refine ⟨⟨c.bk.trans y, c.R.step y, c.as.next c.aliveD y, fun b hb => let ⟨o, e⟩ := c.al b hb; ⟨o, kd b (.tail _ hb) o e⟩, ?_, c.hC, c.hD⟩, kd⟩
  obtain ⟨vs, ⟨n, e⟩, r⟩ := c.ac
  exact ⟨vs, ⟨n, kd D (.head _) _ e⟩, r.mono y.st.le⟩
theorem CS.asn {h' : Heap} {ρ' : Vars} (c : CS w env D wr μ₀ g₀ h₀ g ρ μ acc h) (y : Bk w (· = env.locals) μ g h μ g h') (R' : Rel w g env ρ' μ h') : CS w env D wr μ₀ g₀ h₀ g ρ' μ acc h' ∧ ∀ b ∈ D :: wr, ∀ o, h.get? b = some o → h'.get? b = some o := by
  have kd : ∀ b ∈ D :: wr, ∀ o, h.get? b = some o → h'.get? b = some o := fun b hb o e => y.st.kp b o e (fun f => c.as.own b hb (.inl f)) (c.as.mu b hb)
  refine ⟨⟨c.bk.transF y (fun b e => e ▸ c.hC), R', c.as.next c.aliveD y, fun b hb => let ⟨o, e⟩ := c.al b hb; ⟨o, kd b (.tail _ hb) o e⟩, ?_, c.hC, c.hD⟩, kd⟩
  obtain ⟨vs, ⟨n, e⟩, r⟩ := c.ac
  exact ⟨vs, ⟨n, kd D (.head _) _ e⟩, r⟩
theorem Aside.sub {wr' : List Addr} (a : Aside wr env μ g h₀) (hs : ∀ b ∈ wr', b ∈ wr) : Aside wr' env μ g h₀ :=
  ⟨fun b q => a.g b (hs b q), fun b q => a.own b (hs b q), fun b q => a.cells b (hs b q), fun b q => a.mu b (hs b q), fun b q => a.h₀ b (hs b q)⟩
theorem CS.aside {h' : Heap} {wr' : List Addr} (c : CS w env D wr μ₀ g₀ h₀ g ρ μ acc h) (hs : ∀ b ∈ wr', b ∈ wr) (k : ∀ b o, b ∉ wr' → h.get? b = some o → h'.get? b = some o) (al : ∀ b ∈ wr', ∃ o, h'.get? b = some o) : CS w env D wr μ₀ g₀ h₀ g ρ μ acc h' := by
  have as' : Aside wr' env μ g h₀ := c.as.sub fun b q => .tail _ (hs b q)
  refine ⟨as'.bk c.bk k, as'.rel c.R k, c.as, fun b hb => ?_, ?_, c.hC, c.hD⟩
  · by_cases q : b ∈ wr'
    · exact al b q
    · obtain ⟨o, e⟩ := c.al b hb; exact ⟨o, k b o q e⟩
  · obtain ⟨vs, ⟨n, e⟩, r⟩ := c.ac
    exact ⟨vs, ⟨n, k D _ (fun q => c.hD (hs D q)) e⟩, r⟩
theorem CS.append {h' : Heap} {a : AV} {v : Value} {vs : List Value} {n : Nat} (c : CS w env D wr μ₀ g₀ h₀ g ρ μ acc h) (rs : RVs g acc vs) (r : RV g a v) (hs : Heap.SameBut D h h')
    (ho : h'.get? D = some { cls := .type "list", dict := none, data := .seq (vs ++ [v]).toArray n, slots := #[] }) : CS w env D wr μ₀ g₀ h₀ g ρ μ (acc ++ [a]) h' := by
  have as' : Aside [D] env μ g h₀ := c.as.sub fun b q => by rw [List.mem_singleton.mp q]; exact .head _
  have k : ∀ b o, b ∉ [D] → h.get? b = some o → h'.get? b = some o := fun b o q e => (hs.2 b (by simpa using q)).trans e
  refine ⟨as'.bk c.bk k, as'.rel c.R k, c.as, fun b hb => ?_, ⟨_, ⟨n, ho⟩, rs.append (.cons r .nil)⟩, c.hC, c.hD⟩
  obtain ⟨o, e⟩ := c.al b hb
  exact ⟨o, k b o (by rintro q; exact c.hD (List.mem_singleton.mp q ▸ hb)) e⟩
theorem CS.more {I : List Addr} (c : CS w env D wr μ₀ g₀ h₀ g ρ μ acc h) {h' : Heap} (kp : Le h h') (hI : ∀ b ∈ I, h.get? b = none) (al : ∀ b ∈ I, ∃ o, h'.get? b = some o) : CS w env D (I ++ wr) μ₀ g₀ h₀ g ρ μ acc h' := by
  have b₀ : Bk w noF μ g h μ g h' := Stp.ext kp c.R.le c.R.mu
  obtain ⟨c', _⟩ := c.expr b₀
  have as₁ := Aside.start c.R hI
  have asI : ∀ b ∈ I, h₀.get? b = none := fun b hb => dom_none c.bk.st.dom (hI b hb)
  refine ⟨c'.bk, c'.R, ⟨fun b hb => ?_, fun b hb => ?_, fun b hb => ?_, fun b hb => ?_, fun b hb => ?_⟩, fun b hb => ?_, c'.ac, c'.hC, fun hb => ?_⟩
  all_goals first | (rcases List.mem_cons.mp hb with q | hb') | skip
  · exact c.as.g b (q ▸ .head _)
  · exact (List.mem_append.mp hb').elim (as₁.g b) fun q => c.as.g b (.tail _ q)
  · exact c.as.own b (q ▸ .head _)
  · exact (List.mem_append.mp hb').elim (as₁.own b) fun q => c.as.own b (.tail _ q)
  · exact c.as.cells b (q ▸ .head _)
  · exact (List.mem_append.mp hb').elim (as₁.cells b) fun q => c.as.cells b (.tail _ q)
  · exact c.as.mu b (q ▸ .head _)
  · exact (List.mem_append.mp hb').elim (as₁.mu b) fun q => c.as.mu b (.tail _ q)
  · exact c.as.h₀ b (q ▸ .head _)
  · exact (List.mem_append.mp hb').elim (asI b) fun q => c.as.h₀ b (.tail _ q)
  · exact (List.mem_append.mp hb).elim (al b) (c'.al b)
  · rcases List.mem_append.mp hb with q | q
    · obtain ⟨vs, ⟨n, e⟩, _⟩ := c.ac; rw [hI D q] at e; cases e
    · exact c.hD q
theorem CS.less {I : List Addr} (c : CS w env D (I ++ wr) μ₀ g₀ h₀ g ρ μ acc h) : CS w env D wr μ₀ g₀ h₀ g ρ μ acc h :=
  ⟨c.bk, c.R, c.as.sub fun b q => by rcases List.mem_cons.mp q with rfl | q; exact .head _; exact .tail _ (List.mem_append_right _ q), fun b q => c.al b (List.mem_append_right _ q), c.ac, c.hC, fun q => c.hD (List.mem_append_right _ q)⟩
end
end Mine
set_option tactic.hygienic false
open PySem PySem.W PySem.Calls PyProof.Rows
set_option Elab.async false
set_option maxRecDepth 100000
set_option linter.unusedVariables false
namespace Mine
section
variable {w : World} {A : Around} {env : Env} {g : Heap} {ρ : Vars} {μ : Mu}
noncomputable abbrev CP := Heap → Vars → Mu → List AV → Prop
noncomputable def TailX (w : World) (A : Around) (env : Env) (D : Addr) (tail : Sem Fin) (c : Code) (T : CP) (g : Heap) (ρ : Vars) (μ : Mu) (acc : List AV) : Prop :=
  ∀ (s : Shared) (wr : List Addr) (μ₀ : Mu) (g₀ h₀ : Heap) (Q : Fin → Shared → Prop) (E : Value → Shared → Prop), CS w env D wr μ₀ g₀ h₀ g ρ μ acc s.heap →
    (∀ g' ρ' μ' acc' h' tk, T g' ρ' μ' acc' → CS w env D wr μ₀ g₀ h₀ g' ρ' μ' acc' h' → Le g g' → (∀ b ∈ wr, ∀ o, s.heap.get? b = some o → h'.get? b = some o) → Q (.again c) { s with heap := h', toks := tk }) →
    wpAny (model PR w) A tail Q E s
noncomputable def nextTail (e : Expr) (d : Nat) (p : Pos) (target : Expr) (it acc : Value) (env : Env) (tail : Sem Fin) : Sem Fin :=
  standAt p >>= fun _ => pyNext it >>= fun r => match r with
    | none => pure (.done .next)
    | some v => letOwnedTupleGo target it v >>= fun _ => assign target env v >>= fun _ => tail
theorem comp_loop {e : Expr} {d : Nat} {p : Pos} {target : Expr} {tail : Sem Fin} {xs : List AV} {T : List AV → CP} {s : Shared} {I D : Addr} {wrI fp wr : List Addr} {Pv : Nat → Value → Prop} {St : Nat → Heap → Prop} {h₀ g₀ : Heap} {μ₀ : Mu} {acc : List AV} {R : Result → Shared → Prop}
    (heq : compTurn e d (.ref I) (.ref D) env = nextTail e d p target (.ref I) (.ref D) env tail)
    (hden : ∀ Q E s, wpAny (model PR w) A (compTurn e d (.ref I) (.ref D) env) Q (notedBy (model PR w) A env E) s → wpAny (model PR w) (A.under (.compLoop e d (.ref I) (.ref D) env)) ((model PR w).den (.compLoop e d (.ref I) (.ref D) env)) Q E s)
    (hq : (Code.compLoop e d (.ref I) (.ref D) env).quiet = true)
    (hT : ∀ v vs g ρ μ acc, T (v :: vs) g ρ μ acc → ∃ ρ₁, AsL w A env target v g ρ μ ρ₁ ∧ TailX w A env D tail (.compLoop e d (.ref I) (.ref D) env) (T vs) g ρ₁ μ acc)
    (W : Walks PR w A I fp wrI xs.length Pv St) (hfp : ∀ b ∈ fp, b ∈ wrI ∨ (g.get? b).isSome = true) (hP : ∀ i v, Pv i v → ∃ x, xs[i]? = some x ∧ RV g x v) (hal : ∀ i h, St i h → PlainIt h I ∧ ∀ b ∈ wrI, ∃ o, h.get? b = some o)
    (hdis : ∀ b ∈ wr, b ∉ wrI) (cs : CS w env D (wrI ++ wr) μ₀ g₀ h₀ g ρ μ acc s.heap) (hst : St 0 s.heap) (h : T xs g ρ μ acc)
    (k : ∀ g' ρ' μ' acc' h' tk, T [] g' ρ' μ' acc' → CS w env D wr μ₀ g₀ h₀ g' ρ' μ' acc' h' → Le g g' → (∀ b ∈ wr, ∀ o, s.heap.get? b = some o → h'.get? b = some o) → R (.ok .next) { s with heap := h', toks := tk }) :
    codeAny (model PR w) A (.compLoop e d (.ref I) (.ref D) env) R s := by
  refine codeAny_loop hq (fun n s' => ∃ i g' ρ' μ' acc' h' tk', s' = { s with heap := h', toks := tk' } ∧ n + i = xs.length ∧ T (xs.drop i) g' ρ' μ' acc' ∧ CS w env D (wrI ++ wr) μ₀ g₀ h₀ g' ρ' μ' acc' h' ∧ St i h' ∧ Le g g' ∧ (∀ b ∈ wr, ∀ o, s.heap.get? b = some o → h'.get? b = some o)) ?_ xs.length
    ⟨0, g, ρ, μ, acc, s.heap, s.toks, rfl, rfl, h, cs, hst, .refl _, fun _ _ _ e => e⟩
  rintro n s' ⟨i, g', ρ', μ', acc', h', tk', rfl, hn, hF, cs', hst', lg, kw⟩
  refine hden _ _ _ ?_
  rw [heq]
  unfold nextTail
  refine wpAny_bind (wpAny_standAt (wpAny_bind ?_))
  have hsub : ∀ b ∈ wrI, b ∈ wrI ++ wr := fun b q => List.mem_append_left _ q
  by_cases hi : i < xs.length
  · refine W.item i _ _ _ hi hst' fun v h₃ tk₃ hPv hst₃ hk₃ => ?_
    obtain ⟨x, hx, rx⟩ := hP i v hPv
    have al₃ := (hal _ _ hst₃).2
    have cs₃ := cs'.aside hsub hk₃ al₃
    have hd : xs.drop i = x :: xs.drop (i + 1) := by
      obtain ⟨hl, e⟩ := List.getElem?_eq_some_iff.mp hx
      rw [List.drop_eq_getElem_cons hl, e]
    rw [hd] at hF
    obtain ⟨ρ₁, hA, hB⟩ := hT _ _ _ _ _ _ hF
    refine wpAny_bind (ltg_plain (hal _ _ hst₃).1 (wpAny_bind ?_))
    refine hA _ _ _ v cs₃.R (rx.mono lg) fun h₄ tk₄ bk₄ R₄ => ?_
    obtain ⟨cs₄, kd₄⟩ := cs₃.asn bk₄ R₄
    refine hB _ _ _ _ _ _ _ cs₄ fun g₅ ρ₅ μ₅ acc₅ h₅ tk₅ p₅ cs₅ l₅ kd₅ => ?_
    refine ⟨rfl, n - 1, by walk_at "om", i + 1, g₅, ρ₅, μ₅, acc₅, h₅, tk₅, rfl, by walk_at "om", p₅, cs₅, ?_, lg.trans l₅, fun b hb o e => kd₅ b (List.mem_append_right _ hb) o (kd₄ b (.tail _ (List.mem_append_right _ hb)) o (hk₃ b o (hdis b hb) (kw b hb o e)))⟩
    refine W.frame _ _ _ hst₃ fun b hb o e => ?_
    rcases hfp b hb with q | q
    · exact kd₅ b (hsub b q) o (kd₄ b (.tail _ (hsub b q)) o e)
    · obtain ⟨o', e'⟩ := Option.isSome_iff_exists.mp q
      have e3 := cs₃.R.le b o' (lg b o' e')
      rw [e] at e3; cases e3
      exact cs₅.R.le b o (l₅ b o (lg b o e'))
  · have hin : i = xs.length := by walk_at "om"
    subst hin
    refine W.done _ _ _ hst' fun h₃ tk₃ hk₃ => wpAny_pure ?_
    rw [List.drop_length] at hF
    have as' : Aside wrI env μ' g' h₀ := cs'.as.sub fun b q => .tail _ (hsub b q)
    have cl : CS w env D wr μ₀ g₀ h₀ g' ρ' μ' acc' h' := cs'.less
    refine k g' ρ' μ' acc' h₃ tk₃ hF ⟨as'.bk cl.bk hk₃, as'.rel cl.R hk₃, cl.as, fun b hb => ?_, ?_, cl.hC, cl.hD⟩ lg fun b hb o e => hk₃ b o (hdis b hb) (kw b hb o e)
    · obtain ⟨o, e⟩ := cl.al b hb; exact ⟨o, hk₃ b o (hdis b hb) e⟩
    · obtain ⟨vs, ⟨n, e⟩, r⟩ := cl.ac
      exact ⟨vs, ⟨n, hk₃ D _ (fun q => cs'.hD (hsub D q)) e⟩, r⟩
noncomputable def IfX (w : World) (A : Around) (env : Env) (ifs : List Expr) (g : Heap) (ρ : Vars) (μ : Mu) (K : Heap → Bool → Mu → Prop) : Prop :=
  match ifs with
  | [] => K g true μ
  | [c] => TX w A env c g ρ μ K
  | _ => False
noncomputable def CompX (w : World) (A : Around) (env : Env) (target : Expr) (ifs : List Expr) (elt : Expr) (P : CP) : List AV → CP
  | [], g, ρ, μ, acc => P g ρ μ acc
  | v :: vs, g, ρ, μ, acc => ∃ ρ₁, AsL w A env target v g ρ μ ρ₁ ∧ IfX w A env ifs g ρ₁ μ fun g₂ ok μ₂ =>
      if ok = true then EX w A env elt g₂ ρ₁ μ₂ fun g₃ a μ₃ => acc.length ≤ 2 ^ 24 ∧ CompX w A env target ifs elt P vs g₃ ρ₁ μ₃ (acc ++ [a])
      else CompX w A env target ifs elt P vs g₂ ρ₁ μ₂ acc
noncomputable def tail1 (elt : Expr) (ifs : List Expr) (acc : Value) (env : Env) (c : Code) : Sem Fin := do
  let mut ok := true
  for c in ifs do
    if ok then ok ← isTrue c env (eval c env)
  if ok then
    (do let _ ← call (.builtin "list.append") [acc, ← eval elt env])
  again c
theorem tail1_X {D : Addr} {elt : Expr} {ifs : List Expr} {c : Code} {T : CP} {acc : List AV}
    (h : IfX w A env ifs g ρ μ fun g₂ ok μ₂ => if ok = true then EX w A env elt g₂ ρ μ₂ fun g₃ a μ₃ => acc.length ≤ 2 ^ 24 ∧ T g₃ ρ μ₃ (acc ++ [a]) else T g₂ ρ μ₂ acc) :
    TailX w A env D (tail1 elt ifs (.ref D) env c) c T g ρ μ acc := by
  intro s wr μ₀ g₀ h₀ Q E cs k
  have main : ∀ g₂ ok μ₂ h₂ tk, (if ok = true then EX w A env elt g₂ ρ μ₂ fun g₃ a μ₃ => acc.length ≤ 2 ^ 24 ∧ T g₃ ρ μ₃ (acc ++ [a]) else T g₂ ρ μ₂ acc) → CS w env D wr μ₀ g₀ h₀ g₂ ρ μ₂ acc h₂ → Le g g₂ → (∀ b ∈ wr, ∀ o, s.heap.get? b = some o → h₂.get? b = some o) →
      wpAny (model PR w) A (if ok = true then ((eval elt env >>= fun x => call (.builtin "list.append") [.ref D, x] >>= fun _ => (pure () : Sem Unit)) >>= fun _ => again c) else again c) Q E { s with heap := h₂, toks := tk } := by
    intro g₂ ok μ₂ h₂ tk p cs₂ l₂ kw
    cases ok with
    | false =>
      simp only [Bool.false_eq_true, if_false] at p ⊢
      exact wpAny_pure (k g₂ ρ μ₂ acc h₂ tk p cs₂ l₂ kw)
    | true =>
      simp only [if_true] at p ⊢
      refine wpAny_bind (wpAny_bind (p.then cs₂.R fun g₃ a μ₃ v s₃ h₃ b₃ R₃ r₃ e₃ => ?_))
      obtain ⟨h₃', tk₃, rfl⟩ := e₃
      obtain ⟨hz, h₃⟩ := h₃
      obtain ⟨cs₃, kd₃⟩ := cs₂.expr b₃
      obtain ⟨vs, ⟨n, hD⟩, rs⟩ := cs₃.ac
      refine wpAny_bind (append_at (n := n) (its := vs.toArray) (hsz := by rw [List.size_toArray, rs.1]; exact hz) hD fun h₄ hs₄ ho₄ => ?_)
      have ho₄' : h₄.get? D = some { cls := .type "list", dict := none, data := .seq (vs ++ [v]).toArray (n + 1), slots := #[] } := by rw [ho₄]; simp
      have cs₄ := cs₃.append rs r₃ hs₄ ho₄'
      exact wpAny_pure (wpAny_pure (k g₃ ρ μ₃ _ h₄ tk₃ h₃ cs₄ (l₂.trans b₃.st.le) fun b hb o e => (hs₄.2 b (by rintro rfl; exact cs.hD hb)).trans (kd₃ b (.tail _ hb) o (kw b hb o e))))
  unfold tail1
  match ifs, h with
  | [], h => exact wpAny_bind (wpAny_pure (main g true μ s.heap s.toks h cs (.refl _) fun _ _ _ e => e))
  | [c], h =>
    refine wpAny_bind (wpAny_tests_one (h s _ _ cs.R fun g' b μ' h' tk p bk => ?_))
    obtain ⟨cs', kd⟩ := cs.expr bk
    exact main g' b μ' h' tk p cs' bk.st.le fun b hb o e => kd b (.tail _ hb) o e
theorem turn1 {elt target iter : Expr} {ifs : List Expr} {scope : Scope} {pos : Pos} {it acc : Value} {env : Env} :
    compTurn (.ListComp elt [⟨target, iter, ifs, 0⟩] scope pos) 0 it acc env = nextTail (.ListComp elt [⟨target, iter, ifs, 0⟩] scope pos) 0 iter.pos target it acc env (tail1 elt ifs acc env (.compLoop (.ListComp elt [⟨target, iter, ifs, 0⟩] scope pos) 0 it acc env)) := by rfl
theorem turn2 {elt target iter target2 iter2 : Expr} {ifs : List Expr} {scope : Scope} {pos : Pos} {it acc : Value} {env : Env} :
    compTurn (.ListComp elt [⟨target, iter, [], 0⟩, ⟨target2, iter2, ifs, 0⟩] scope pos) 1 it acc env = nextTail (.ListComp elt [⟨target, iter, [], 0⟩, ⟨target2, iter2, ifs, 0⟩] scope pos) 1 iter2.pos target2 it acc env (tail1 elt ifs acc env (.compLoop (.ListComp elt [⟨target, iter, [], 0⟩, ⟨target2, iter2, ifs, 0⟩] scope pos) 1 it acc env)) := by rfl
end
end Mine
set_option tactic.hygienic false
open PySem PySem.W PySem.Calls PyProof.Rows
set_option Elab.async false
set_option maxRecDepth 100000
set_option linter.unusedVariables false
namespace Mine
section
variable {w : World} {A : Around} {env : Env} {g : Heap} {ρ : Vars} {μ : Mu}
theorem lookup_relabel_cell {env : Env} : ∀ {names : List (Str × NameKind)} {x : Str}, (∀ y ∈ names, y.2 ≠ .cell) →
    (names.map fun (n, k) => if (k == NameKind.free && env.scope.kind == .function && env.kindOf n == some .cell) then (n, NameKind.cell) else (n, k)).lookup x = some .cell → env.kindOf x = some .cell
  | [], _, _, h => by simp at h
  | (n, k) :: r, x, hc, h => by
    have ih := @lookup_relabel_cell env r x fun y hy => hc y (.tail _ hy)
    cases hx : x == n with
    | true =>
      have e : x = n := by simpa using hx
      subst e
      by_cases hcd : (k == NameKind.free && env.scope.kind == .function && env.kindOf x == some .cell) = true
      · simp only [Bool.and_eq_true, beq_iff_eq] at hcd
        exact hcd.2
      · simp only [List.map_cons] at h
        rw [if_neg hcd] at h
        simp at h
        exact absurd h (hc (x, k) (.head _))
    | false =>
      simp only [List.map_cons] at h
      by_cases hcd : (k == NameKind.free && env.scope.kind == .function && env.kindOf n == some .cell) = true
      · rw [if_pos hcd, List.lookup_cons, hx] at h; exact ih h
      · rw [if_neg hcd, List.lookup_cons, hx] at h; exact ih h
noncomputable def Caps (env : Env) (scope : Scope) (cl : List (Str × Addr)) (ρ : Vars) : Vars → Prop
  | [] => True
  | (x, a) :: r => (ρ.lookup x = some a ∧ (env.kindOf x = some .cell ∨ env.kindOf x = some .free) ∧ cl.lookup x = env.cells.lookup x ∧ (relabel scope env).names.lookup x ≠ some .local) ∧ Caps env scope cl ρ r
theorem Caps.mem {scope : Scope} {cl : List (Str × Addr)} : ∀ {r : Vars}, Caps env scope cl ρ r → ∀ {x : Str} {a : AV}, r.lookup x = some a → ρ.lookup x = some a ∧ (env.kindOf x = some .cell ∨ env.kindOf x = some .free) ∧ cl.lookup x = env.cells.lookup x ∧ (relabel scope env).names.lookup x ≠ some .local
  | [], _, _, _, e => nomatch e
  | (y, b) :: r, h, x, a, e => by
    rw [List.lookup_cons] at e
    split at e
    · rename_i q; cases e; rw [beq_iff_eq.mp q]; exact h.1
    · exact h.2.mem e
noncomputable def SubC (env : Env) : List (Str × Addr) → Prop
  | [] => True
  | (x, c) :: r => env.cells.lookup x = some c ∧ SubC env r
theorem SubC.mem : ∀ {cl : List (Str × Addr)}, SubC env cl → ∀ (x : Str) (c : Addr), cl.lookup x = some c → env.cells.lookup x = some c
  | [], _, _, _, e => nomatch e
  | (y, b) :: r, h, x, a, e => by
    rw [List.lookup_cons] at e
    split at e
    · rename_i q; cases e; rw [beq_iff_eq.mp q]; exact h.1
    · exact h.2.mem x a e
theorem Loc.comp {scope : Scope} {cl : List (Str × Addr)} {C : Addr} {ρc : Vars} {h h₁ : Heap} (L : Loc g env ρ h) (le : Le g h) (hC : h.get? C = none) (kp : Le h h₁) (ns : h₁.Ns C fun _ => none) (hkind : scope.kind = .function) (hcell : ∀ y ∈ scope.names, y.2 ≠ .cell)
    (hsub : ∀ x c, cl.lookup x = some c → env.cells.lookup x = some c) (hcap : Caps env scope cl ρ ρc) : Loc g (compEnvC scope cl C env) ρc h₁ where
  fn := hkind
  gl := L.gl
  bl := L.bl
  ns := ⟨_, ns, fun x a hx hk => absurd hk (hcap.mem hx).2.2.2⟩
  off := le.none hC
  cell := fun x a hx hk => by
    obtain ⟨h1, h2, h3, h4⟩ := hcap.mem hx
    obtain ⟨c, v, h5, ⟨o, h6, h7⟩, h8⟩ := L.cell x a h1 h2
    exact ⟨c, v, h3.trans h5, ⟨o, kp _ _ h6, h7⟩, h8⟩
  cells := fun x c hx => by
    obtain ⟨⟨v, o, h2, h3⟩, h4, h5⟩ := L.cells x c (hsub x c hx)
    exact ⟨⟨v, o, kp _ _ h2, h3⟩, by rintro rfl; exact absurd (hC.symm.trans h2) nofun, fun k => h5 (lookup_relabel_cell hcell k)⟩
  apart := fun x y c hx hy => L.apart x y c (hsub x c hx) (hsub y c hy)
theorem compStart_list {elt target iter ifs rest scope pos it acc} {env : Env} {R : Result → Shared → Prop} {s : Shared}
    (h0 : codeAny (model PR w) A (.compLoop (.ListComp elt (⟨target, iter, ifs, 0⟩ :: rest) scope pos) 0 it acc env) R s)
    (h : wpAny (model PR w) A (pyIter it) (fun it' s' => codeAny (model PR w) A (.compLoop (.ListComp elt (⟨target, iter, ifs, 0⟩ :: rest) scope pos) 0 it' acc env) R s')
      (notedBy (model PR w) A env fun x s' => R (.error x) s') s) :
    codeAny (model PR w) A (.compStart (.ListComp elt (⟨target, iter, ifs, 0⟩ :: rest) scope pos) 0 it acc env) R s := codeAny_compStart_list h0 h
theorem comp_run {elt target iter : Expr} {ifs : List Expr} {rest : List Comprehension} {scope : Scope} {cl : List (Str × Addr)} {pos ip : Pos} {s : Shared} {E : Value → Shared → Prop} {Q : Value → Shared → Prop} {use : Option (Value → Sem Unit)} {ρc : Vars} {T : Addr → List AV → CP} {tail : Addr → Addr → Addr → Sem Fin}
    (R : Rel w g env ρ μ s.heap) (hclos : closureFor scope env = pure cl) (hcell : ∀ y ∈ scope.names, y.2 ≠ .cell) (hkind : scope.kind = .function)
    (hnames : ∀ y ∈ scope.names, y.2 = .local → scope.names.lookup y.1 = some .local) (hsub : ∀ x c, cl.lookup x = some c → env.cells.lookup x = some c) (hcap : Caps env scope cl ρ ρc)
    (h : EX w A env iter g ρ μ fun g₁ a μ₁ => ∃ xs, Src w A a xs ∧ ∀ C, T C xs g₁ ρc μ₁ [])
    (hs : ∀ x, foldedSetIterable iter env x = pure x)
    (heq : ∀ I D C, compTurn (.ListComp elt (⟨target, iter, ifs, 0⟩ :: rest) scope pos) 0 (.ref I) (.ref D) (compEnvC scope cl C env) = nextTail (.ListComp elt (⟨target, iter, ifs, 0⟩ :: rest) scope pos) 0 ip target (.ref I) (.ref D) (compEnvC scope cl C env) (tail I D C))
    (hT : ∀ I D C v vs g ρ μ acc, T C (v :: vs) g ρ μ acc → ∃ ρ₁, AsL w A (compEnvC scope cl C env) target v g ρ μ ρ₁ ∧ TailX w A (compEnvC scope cl C env) D (tail I D C) (.compLoop (.ListComp elt (⟨target, iter, ifs, 0⟩ :: rest) scope pos) 0 (.ref I) (.ref D) (compEnvC scope cl C env)) (T C vs) g ρ₁ μ acc)
    (fin : ∀ g₁ μ₁ h₁ C D g₂ g₃ ρ₂ μ₂ acc m h₂ tk, Bk w noF μ g s.heap μ₁ g₁ h₁ → T C [] g₂ ρ₂ μ₂ acc → Le g₂ g₃ → Bk w noF μ₁ g₁ h₁ μ₂ g₃ h₂ → RV g₃ (.list acc) (.ref D) → Aside [C] env μ₂ g₃ h₁ → h₂.Ns C m → D ≠ C → compPost (model PR w) A E use Q (.ref D) C (.ok .next) { s with heap := h₂, toks := tk }) :
    wpAny (model PR w) A (comprehension (.ListComp elt (⟨target, iter, ifs, 0⟩ :: rest) scope pos) scope env (firstIterPos (⟨target, iter, ifs, 0⟩ :: rest) pos) (newList []) false (eval iter env) use) Q E s := by
  refine wpAny_comprehension_free (g := ⟨target, iter, ifs, 0⟩) (gs := rest) rfl hs hclos hkind hnames (h.then R fun g₁ a μ₁ v₁ s₁ h₁ b₁ R₁ r₁ e₁ => ?_)
  obtain ⟨h', tk, rfl⟩ := e₁
  obtain ⟨xs, hsrc, hX⟩ := h₁
  refine hsrc g₁ _ _ _ v₁ R₁.B R₁.le r₁ fun I wr fp Pv St h₂ hwr hfp W hP hal hst kp => ?_
  refine wpAny_newObj_type (wpAny_newFunctionEnv hcell (by intro y hy; simp at hy) (fun h₃ hns hsb => ?_) hkind)
  dsimp only at hns hsb kp b₁ hwr R₁ ⊢
  generalize hH : h₂.push { cls := .type "list", dict := none, data := .seq ([] : List Value).toArray } = H at hns hsb ⊢
  generalize hD : h₂.objs.size = D
  generalize hC : H.objs.size = C at hns hsb ⊢
  have hCD : C = D + 1 := by rw [← hC, ← hH, Heap.size_push, hD]
  have hDC : D ≠ C := by walk_at "om"
  have hD₂ : h₂.get? D = none := hD ▸ fresh_size _
  have hC₂ : h₂.get? C = none := by
    cases q : h₂.get? C with
    | none => rfl
    | some o => have := Nat.lt_of_lt_of_eq (Heap.lt_size q) hD; walk_at "om"
  have kp₁ : Le h₂ H := by rw [← hH]; exact le_push _ _
  have kp₂ : Le H h₃ := fun b o e => hsb.extBut b o (Nat.ne_of_lt (Nat.lt_of_lt_of_eq (Heap.lt_size e) hC)) (Heap.get?_push_of_some _ e)
  have kp₃ : Le h₂ h₃ := kp₁.trans kp₂
  have hDo : h₃.get? D = some { cls := .type "list", dict := none, data := .seq ([] : List Value).toArray 0, slots := #[] } := by
    refine kp₂ _ _ ?_
    rw [← hH, ← hD]; exact Heap.get?_push_size _ rfl
  have hCa : h'.get? C = none := dom_none kp.dom hC₂
  have hDa : h'.get? D = none := dom_none kp.dom hD₂
  have L : Loc g₁ (compEnvC scope cl C env) ρc h₃ := R₁.L.comp R₁.le hCa (kp.trans kp₃) hns hkind hcell hsub hcap
  have bk : Bk w noF μ₁ g₁ h' μ₁ g₁ h₃ := Stp.ext (kp.trans kp₃) R₁.le R₁.mu
  have ncell : ∀ b, h'.get? b = none → ∀ x, cl.lookup x ≠ some b := fun b hb x hx => by
    obtain ⟨⟨v, o, e, _⟩, _⟩ := R₁.L.cells x b (hsub x b hx)
    rw [hb] at e; cases e
  have nown : ∀ b, h'.get? b = none → b ≠ C → ¬ own (compEnvC scope cl C env) b := fun b hb hbC => by
    rintro (q | ⟨x, _, q⟩)
    · exact hbC q
    · exact ncell b hb x q
  have R₃ : Rel w g₁ (compEnvC scope cl C env) ρc μ₁ h₃ := by
    refine ⟨R₁.B, R₁.le.trans (kp.trans kp₃), L, bk.mu, fun b m => ?_⟩
    obtain ⟨o₂, m2⟩ := R₁.mu.there b m
    have mo := R₁.muOff b m
    refine ⟨?_, fun x hx => mo.2 x (hsub x b hx)⟩
    rintro (q | ⟨x, _, q⟩)
    · rw [q] at m2; exact absurd (hCa.symm.trans m2) nofun
    · exact mo.2 x (hsub x b q)
  have wrC : ∀ b ∈ wr, b ≠ C := fun b hb q => by
    obtain ⟨o, e⟩ := (hal 0 h₂ hst).2 b hb
    rw [q, hC₂] at e; cases e
  have wrD : D ∉ wr := fun hb => by
    obtain ⟨o, e⟩ := (hal 0 h₂ hst).2 D hb
    rw [hD₂] at e; cases e
  have hwr' : ∀ b ∈ D :: wr, h'.get? b = none := fun b hb => by
    rcases List.mem_cons.mp hb with rfl | hb
    · exact hDa
    · exact hwr b hb
  have hbC' : ∀ b ∈ D :: wr, b ≠ C := fun b hb => by
    rcases List.mem_cons.mp hb with rfl | hb
    · exact hDC
    · exact wrC b hb
  have as₁ := Aside.start R₁ hwr'
  have cs : CS w (compEnvC scope cl C env) D (wr ++ []) μ₁ g₁ h' g₁ ρc μ₁ [] h₃ := by
    rw [List.append_nil]
    exact ⟨bk, R₃, ⟨as₁.g, fun b hb => nown b (hwr' b hb) (hbC' b hb), fun b hb => ncell b (hwr' b hb), as₁.mu, hwr'⟩, fun b hb => let ⟨o, e⟩ := (hal 0 h₂ hst).2 b hb; ⟨o, kp₃ _ _ e⟩, ⟨[], ⟨0, hDo⟩, .nil⟩, hCa, wrD⟩
  have hst₃ : St 0 h₃ := W.frame _ _ _ hst fun b _ o e => kp₃ b o e
  have loop : codeAny (model PR w) A (.compLoop (.ListComp elt (⟨target, iter, ifs, 0⟩ :: rest) scope pos) 0 (.ref I) (.ref D) (compEnvC scope cl C env)) (compPost (model PR w) A E use Q (.ref D) C) { s with heap := h₃, toks := tk } := by
    refine comp_loop (heq I D C) (fun Q' E' s' hx => wpAny_noted hx) rfl (hT I D C) W hfp hP hal (wr := []) (fun b hb => absurd hb List.not_mem_nil) cs hst₃ (hX C) fun g₂ ρ₂ μ₂ acc h₄ tk₄ hfin cs₄ l₂ _ => ?_
    obtain ⟨vs, ⟨n, hDe⟩, rs⟩ := cs₄.ac
    obtain ⟨g₃, b₃, l₃, hg₃, hold⟩ := cs₄.bk.freeze (· == D) fun b hb => by
      have : b = D := by simpa using hb
      subst this
      exact ⟨hDa, cs₄.as.mu b (.head _)⟩
    have hgD := hg₃ D _ (by simp) hDe
    obtain ⟨m, hns₄, _⟩ := cs₄.R.L.ns
    have asC := Aside.start R₁ (wr := [C]) fun b hb => by rw [List.mem_singleton.mp hb]; exact hCa
    refine fin g₁ μ₁ h' C D g₂ g₃ ρ₂ μ₂ acc m h₄ tk₄ b₁ hfin l₃ b₃ (.list' ⟨n, hgD⟩ (rs.mono l₃)) ⟨fun b hb => ?_, asC.own, asC.cells, fun b hb m => ?_, asC.h₀⟩ hns₄ hDC
    · rw [List.mem_singleton.mp hb]
      cases q : g₃.get? C with
      | none => rfl
      | some o =>
        rcases hold C o q with r | r
        · exact absurd (cs₄.R.L.off.symm.trans r) nofun
        · exact absurd (by simpa using r) hDC.symm
    · rw [List.mem_singleton.mp hb] at m
      exact (cs₄.R.muOff C m).1 (.inl rfl)
  exact compStart_list loop (W.self 0 _ _ _ hst₃ loop)
theorem EX.comp {P : Heap → AV → Mu → Prop} {elt target iter : Expr} {ifs : List Expr} {scope : Scope} {cl : List (Str × Addr)} {pos : Pos} {ρc : Vars}
    (hclos : closureFor scope env = pure cl) (hcap : Caps env scope cl ρ ρc) (hsub : SubC env cl)
    (h : EX w A env iter g ρ μ fun g₁ a μ₁ => ∃ xs, Src w A a xs ∧ ∀ C, CompX w A (compEnvC scope cl C env) target ifs elt (fun g₂ ρ₂ μ₂ acc => ∀ g₃, Le g₂ g₃ → P g₃ (.list acc) μ₂) xs g₁ ρc μ₁ [])
    (hcell : ∀ y ∈ scope.names, y.2 ≠ .cell := by decide) (hkind : scope.kind = .function := by rfl)
    (hnames : ∀ y ∈ scope.names, y.2 = .local → scope.names.lookup y.1 = some .local := by decide)
    (hs : ∀ x, foldedSetIterable iter env x = pure x := by intro _; rfl) :
    EX w A env (.ListComp elt [⟨target, iter, ifs, 0⟩] scope pos) g ρ μ P := by
  intro s E Q R k
  rw [eval_ListComp]
  refine comp_run (use := none) (T := fun C xs => CompX w A (compEnvC scope cl C env) target ifs elt (fun g₂ ρ₂ μ₂ acc => ∀ g₃, Le g₂ g₃ → P g₃ (.list acc) μ₂) xs) R hclos hcell hkind hnames hsub.mem hcap h hs (fun I D C => turn1) (fun I D C v vs g ρ μ acc hx => ?_) ?_
  · obtain ⟨ρ₁, h1, h2⟩ := hx
    exact ⟨ρ₁, h1, tail1_X h2⟩
  · intro g₁ μ₁ h₁ C D g₂ g₃ ρ₂ μ₂ acc m h₂ tk b₁ hx l b₂ r as hns hDC
    refine ⟨m, hns, fun h₃ hs₃ => ?_⟩
    have b₃ := as.bk b₂ (fun b o q e => (hs₃.2 b (by simpa using q)).trans e)
    exact k g₃ _ μ₂ _ h₃ tk (hx g₃ l) (b₁.trans b₃) r
theorem S1.assignC {P : Heap → Fl → Vars → Mu → Prop} {y : Str} {py spos : Pos} {elt target iter : Expr} {ifs : List Expr} {scope : Scope} {cl : List (Str × Addr)} {pos : Pos} {ρc : Vars}
    (hclos : closureFor scope env = pure cl) (hcap : Caps env scope cl ρ ρc) (hsub : SubC env cl)
    (h : EX w A env iter g ρ μ fun g₁ a μ₁ => ∃ xs, Src w A a xs ∧ ∀ C, CompX w A (compEnvC scope cl C env) target ifs elt (fun g₂ ρ₂ μ₂ acc => ∀ g₃, Le g₂ g₃ → P g₃ .next (setv ρ y (.list acc)) μ₂) xs g₁ ρc μ₁ [])
    (hy : env.kindOf y = some .local) (hsw : swapsWith (.ListComp elt [⟨target, iter, ifs, 0⟩] scope pos) (some (.Name y py)) spos.line env = pure true := by rfl)
    (hcell : ∀ y ∈ scope.names, y.2 ≠ .cell := by decide) (hkind : scope.kind = .function := by rfl)
    (hnames : ∀ y ∈ scope.names, y.2 = .local → scope.names.lookup y.1 = some .local := by decide)
    (hs : ∀ x, foldedSetIterable iter env x = pure x := by intro _; rfl) :
    S1 w A env (.Assign [.Name y py] (.ListComp elt [⟨target, iter, ifs, 0⟩] scope pos) spos) g ρ μ P := by
  intro s E Q R k
  rw [exec_Assign_Name_used _ _ _ _ hsw]
  refine wpAny_bind (wpAny_standAt (wpAny_bind ?_))
  show wpAny _ A (do let _ ← comprehension (.ListComp elt [⟨target, iter, ifs, 0⟩] scope pos) scope env (firstIterPos [⟨target, iter, ifs, 0⟩] pos) (newList []) false (eval iter env) (some (PySem.assign (.Name y py) env))) _ _ s
  refine wpAny_bind (wpAny_mono (comp_run (use := some (PySem.assign (.Name y py) env)) (Q := fun _ s' => Q .next s') (T := fun C xs => CompX w A (compEnvC scope cl C env) target ifs elt (fun g₂ ρ₂ μ₂ acc => ∀ g₃, Le g₂ g₃ → P g₃ .next (setv ρ y (.list acc)) μ₂) xs) R hclos hcell hkind hnames hsub.mem hcap h hs (fun I D C => turn1) (fun I D C v vs g ρ μ acc hx => ?_) ?_) (fun _ s' hq => wpAny_pure (wpAny_pure hq)) fun _ _ e => e)
  · obtain ⟨ρ₁, h1, h2⟩ := hx
    exact ⟨ρ₁, h1, tail1_X h2⟩
  · intro g₁ μ₁ h₁ C D g₂ g₃ ρ₂ μ₂ acc m h₂ tk b₁ hx l b₂ r as hns hDC
    have R₂ : Rel w g₃ env ρ μ₂ h₂ := (R.step b₁).step b₂
    refine wpAny_assign_Name (store_loc0 (s := { s with heap := h₂, toks := tk }) R₂ hy r fun h₃ tk₃ b₃ R₃ => ?_)
    have hCl : C ≠ env.locals := fun q => as.own C (.head _) (.inl q)
    obtain ⟨o, es, ep, ho, hr⟩ := hns
    refine ⟨m, ⟨o, es, ep, b₃.st.kp C o ho hCl (as.mu C (.head _)), hr⟩, fun h₄ hs₄ => ?_⟩
    have hk : ∀ b o, b ∉ [C] → h₃.get? b = some o → h₄.get? b = some o := fun b o q e => (hs₄.2 b (by simpa using q)).trans e
    have bT : Bk w (own env) μ₁ g₁ h₁ μ₂ g₃ h₃ := b₂.weak.trans ⟨⟨b₃.st.le, b₃.st.fresh, fun c o e f m => b₃.st.kp c o e (fun z => f (.inl z)) m, b₃.st.dom, b₃.st.mu⟩, b₃.le, b₃.mu⟩
    exact k g₃ .next _ μ₂ .next h₄ tk₃ (hx g₃ l) (b₁.weak.trans (as.bk bT hk)) (as.rel R₃ hk) .next
end
end Mine
set_option tactic.hygienic false
open PySem PySem.W PySem.Calls PyProof.Rows
set_option Elab.async false
set_option maxRecDepth 100000
set_option linter.unusedVariables false
namespace Mine
section
variable {w : World} {A : Around} {env : Env} {g : Heap} {ρ : Vars} {μ : Mu}
theorem ForX.inv {target : Expr} {body : List Stmt} {P : Heap → Fl → Vars → Mu → Prop} (I : List AV → Heap → Vars → Mu → Prop)
    (turn : ∀ v vs g ρ μ, I (v :: vs) g ρ μ → ∃ ρ₁, AsX w A env target v g ρ μ ρ₁ ∧ SX w A env body g ρ₁ μ (Turn (I vs) P))
    (done : ∀ g ρ μ, I [] g ρ μ → P g .next ρ μ) : ∀ {xs : List AV} {g : Heap} {ρ : Vars} {μ : Mu}, I xs g ρ μ → ForX w A env target body P xs g ρ μ
  | [], _, _, _, h => done _ _ _ h
  | v :: vs, _, _, _, h => by
    obtain ⟨ρ₁, h1, h2⟩ := turn _ _ _ _ _ h
    refine ⟨ρ₁, h1, h2.mono fun g' f ρ' μ' p => ?_⟩
    cases f with
    | next => exact ForX.inv I turn done p
    | cont => exact ForX.inv I turn done p
    | brk => exact p
    | ret a => exact p
theorem IfX.mono {ifs : List Expr} {K K' : Heap → Bool → Mu → Prop} (h : IfX w A env ifs g ρ μ K) (k : ∀ g' b μ', K g' b μ' → K' g' b μ') : IfX w A env ifs g ρ μ K' := by
  match ifs, h with
  | [], h => exact k _ _ _ h
  | [c], h => exact fun s E Q R q => h s E Q R fun g' b μ' h' tk p => q g' b μ' h' tk (k _ _ _ p)
theorem CompX.inv {target elt : Expr} {ifs : List Expr} {P : CP} (I : List AV → CP)
    (turn : ∀ v vs g ρ μ acc, I (v :: vs) g ρ μ acc → ∃ ρ₁, AsL w A env target v g ρ μ ρ₁ ∧ IfX w A env ifs g ρ₁ μ fun g₂ ok μ₂ => if ok = true then EX w A env elt g₂ ρ₁ μ₂ fun g₃ a μ₃ => acc.length ≤ 2 ^ 24 ∧ I vs g₃ ρ₁ μ₃ (acc ++ [a]) else I vs g₂ ρ₁ μ₂ acc)
    (done : ∀ g ρ μ acc, I [] g ρ μ acc → P g ρ μ acc) : ∀ {xs : List AV} {g : Heap} {ρ : Vars} {μ : Mu} {acc : List AV}, I xs g ρ μ acc → CompX w A env target ifs elt P xs g ρ μ acc
  | [], _, _, _, _, h => done _ _ _ _ h
  | v :: vs, _, _, _, _, h => by
    obtain ⟨ρ₁, h1, h2⟩ := turn _ _ _ _ _ _ h
    refine ⟨ρ₁, h1, h2.mono fun g' b μ' p => ?_⟩
    cases b with
    | true => simp only [if_true] at p ⊢; exact p.mono fun g₃ a μ₃ q => ⟨q.1, CompX.inv I turn done q.2⟩
    | false => simp only [Bool.false_eq_true, if_false] at p ⊢; exact CompX.inv I turn done p
theorem setv_setv : ∀ (ρ : Vars) (x : Str) (a b : AV), setv (setv ρ x a) x b = setv ρ x b
  | [], x, a, b => by simp [setv]
  | (y, u) :: r, x, a, b => by
    by_cases h : (y == x) = true
    · simp only [setv, h, if_true]
    · simp only [setv, h, Bool.false_eq_true, if_false]
      rw [setv_setv r x a b]
theorem EX.withLe {e : Expr} {P P' : Heap → AV → Mu → Prop} (h : EX w A env e g ρ μ P') (k : ∀ g' a μ', Le g g' → P' g' a μ' → P g' a μ') : EX w A env e g ρ μ P :=
  fun s E Q R c => h s E Q R fun g' a μ' v h' tk p b => c g' a μ' v h' tk (k _ _ _ b.st.le p) b
theorem TX.withLe {e : Expr} {P P' : Heap → Bool → Mu → Prop} (h : TX w A env e g ρ μ P') (k : ∀ g' a μ', Le g g' → P' g' a μ' → P g' a μ') : TX w A env e g ρ μ P :=
  fun s E Q R c => h s E Q R fun g' a μ' h' tk p b => c g' a μ' h' tk (k _ _ _ b.st.le p) b
theorem CompX.mapF {ι : Type} {x : Str} {px : Pos} {ifs : List Expr} {elt : Expr} {P : CP} (f F : ι → AV) (p : ι → Bool) (hk : env.kindOf x = some .local) : ∀ {ys : List ι} {g : Heap} {ρ : Vars} {acc : List AV},
    (∀ y ∈ ys, ∀ g', Le g g' → IfX w A env ifs g' (setv ρ x (f y)) μ fun g₂ ok μ₂ => μ₂ = μ ∧ ok = p y ∧ (p y = true → EX w A env elt g₂ (setv ρ x (f y)) μ fun g₃ a μ₃ => a = F y ∧ μ₃ = μ)) → acc.length + ys.length ≤ 2 ^ 24 →
    (∀ g' ρ', Le g g' → P g' ρ' μ (acc ++ (ys.filter p).map F)) → CompX w A env (.Name x px) ifs elt P (ys.map f) g ρ μ acc
  | [], g, ρ, acc, _, _, done => by have := done g ρ (.refl _); rw [List.filter_nil, List.map_nil, List.append_nil] at this; exact this
  | y :: ys, g, ρ, acc, h, hz, done => by
    simp only [List.length_cons] at hz
    have rest : ∀ g' acc', Le g g' → acc'.length + ys.length ≤ 2 ^ 24 → acc' ++ (ys.filter p).map F = acc ++ ((y :: ys).filter p).map F → CompX w A env (.Name x px) ifs elt P (ys.map f) g' (setv ρ x (f y)) μ acc' := fun g' acc' l hz' e =>
      CompX.mapF f F p hk (fun z hz g'' l' => by rw [setv_setv]; exact h z (.tail _ hz) g'' (l.trans l')) hz' fun g'' ρ' l' => by rw [e]; exact done g'' ρ' (l.trans l')
    have h0 := h y (.head _) g (.refl _)
    refine ⟨_, AsL.name hk, ?_⟩
    have step : ∀ g₂ ok μ₂, Le g g₂ → (μ₂ = μ ∧ ok = p y ∧ (p y = true → EX w A env elt g₂ (setv ρ x (f y)) μ fun g₃ a μ₃ => a = F y ∧ μ₃ = μ)) →
        if ok = true then EX w A env elt g₂ (setv ρ x (f y)) μ₂ fun g₃ a μ₃ => acc.length ≤ 2 ^ 24 ∧ CompX w A env (.Name x px) ifs elt P (ys.map f) g₃ (setv ρ x (f y)) μ₃ (acc ++ [a]) else CompX w A env (.Name x px) ifs elt P (ys.map f) g₂ (setv ρ x (f y)) μ₂ acc := by
      rintro g₂ ok μ₂ l ⟨rfl, rfl, he⟩
      by_cases hp : p y = true
      · rw [if_pos hp]
        refine (he hp).withLe fun g₃ a μ₃ l₃ q => ?_
        obtain ⟨rfl, rfl⟩ := q
        exact ⟨by walk_at "om", rest g₃ _ (l.trans l₃) (by simp; walk_at "om") (by simp [hp])⟩
      · rw [if_neg hp]
        exact rest g₂ acc l (by walk_at "om") (by simp [hp])
    match ifs, h0, step with
    | [], h0, step => exact step g true μ (.refl _) h0
    | [c], h0, step => exact TX.withLe h0 fun g' b μ' l q => step g' b μ' l q
theorem CompX.mapN {ι : Type} {x : Str} {px : Pos} {elt : Expr} {P : CP} (f F : ι → AV) (hk : env.kindOf x = some .local) {ys : List ι} {g : Heap} {ρ : Vars}
    (h : ∀ y ∈ ys, ∀ g', Le g g' → EX w A env elt g' (setv ρ x (f y)) μ fun g₃ a μ₃ => a = F y ∧ μ₃ = μ) (hz : ys.length ≤ 2 ^ 24)
    (done : ∀ g' ρ', Le g g' → P g' ρ' μ (ys.map F)) : CompX w A env (.Name x px) [] elt P (ys.map f) g ρ μ [] :=
  CompX.mapF f F (fun _ => true) hk (fun y hy g' l => ⟨rfl, rfl, fun _ => h y hy g' l⟩) (by simpa using hz) fun g' ρ' l => by have := done g' ρ' l; rw [List.nil_append, List.filter_eq_self.mpr (fun _ _ => rfl)]; exact this
noncomputable abbrev byts (xs : List UInt8) : List AV := xs.map fun c => .int c.toNat
theorem byteArr_ints (xs : List UInt8) : byteArr (xs.map fun c => (c.toNat : Int)) = xs.toArray := by
  unfold byteArr
  congr 1
  rw [List.map_map]
  conv => rhs; rw [← List.map_id xs]
  refine List.map_congr_left fun c _ => ?_
  simp
theorem intsAre {g : Heap} : ∀ {xs : List UInt8} {vs : List Value}, RVs g (byts xs) vs → IntsAre vs (xs.map fun c => (c.toNat : Int))
  | [], vs, h => by rw [h.unnil]; exact .nil
  | x :: xs, vs, h => by
    obtain ⟨v, vs', rfl, h1, h2⟩ := h.uncons
    cases h1
    exact .cons _ _ (intsAre h2)
theorem ints_range {xs : List UInt8} : ∀ n ∈ xs.map fun c => (c.toNat : Int), 0 ≤ n ∧ n < 256 := fun n hn => by
  obtain ⟨c, _, rfl⟩ := List.mem_map.mp hn
  have := c.toNat_lt
  walk_at "om"
variable {P : Heap → AV → Mu → Prop}
theorem CX.bytesL {xs : List UInt8} (hz : xs.length ≤ 2 ^ 24) (h : P g (.bytes xs) μ) : CX w 0 (.type "bytes") [.list (byts xs)] g μ P := by
  intro A s E Q vs Rm B le M r k
  obtain ⟨v, rfl, r1⟩ := r.one
  obtain ⟨a, us, rfl, hl, ru⟩ := r1.unlist
  refine call_bytes_ints (vs := us) (hl.mono le).isList (intsAre ru) ints_range (by rw [ru.1, List.length_map]; exact hz) Rm.hh fun h' t tk kp => ?_
  rw [byteArr_ints]
  exact k g _ μ _ h' tk h (Stp.ext kp le M) (.bytes ..)
theorem CX.bytesM {ad : Addr} {xs : List UInt8} (hz : xs.length ≤ 2 ^ 24) (h : P g (.bytes xs) (some (.lst ad (byts xs)))) : CX w 0 (.type "bytes") [.mlist ad] g (some (.lst ad (byts xs))) P := by
  intro A s E Q vs Rm B le M r k
  obtain ⟨v, rfl, r1⟩ := r.one
  obtain ⟨_, rfl⟩ := r1.inv
  obtain ⟨_, us, hl, ru⟩ := M.lst
  refine call_bytes_ints (vs := us) hl.isList (intsAre ru) ints_range (by rw [ru.1, List.length_map]; exact hz) Rm.hh fun h' t tk kp => ?_
  rw [byteArr_ints]
  exact k g _ _ _ h' tk h (Stp.ext kp le M) (.bytes ..)
theorem CX.typeBytes {xs : List UInt8} (h : P g (.raw (.type "bytes")) μ) : CX w 0 (.type "type") [.bytes xs] g μ P := by
  intro A s E Q vs Rm B le M r k
  obtain ⟨v, rfl, r1⟩ := r.one
  obtain ⟨_, rfl⟩ := r1.inv
  exact call_type_of (PySem.W.typeIs_bytes _ _ _) rfl (k g _ μ _ s.heap s.toks h (.refl le M) (.raw _))
theorem CX.typeBool {b : Bool} (h : P g (.raw (.type "bool")) μ) : CX w 0 (.type "type") [.bool b] g μ P := by
  intro A s E Q vs Rm B le M r k
  obtain ⟨v, rfl, r1⟩ := r.one
  obtain ⟨_, rfl⟩ := r1.inv
  exact call_type_of rfl rfl (k g _ μ _ s.heap s.toks h (.refl le M) (.raw _))
theorem OX2.addB {a b : List UInt8} (hz : a.length + b.length ≤ 2 ^ 24) (h : P g (.bytes (a ++ b)) μ) : OX2 w A (binaryOp .Add) (.bytes a) (.bytes b) g μ P := by
  refine pure2 (fun s E Q va vb g r1 r2 k => ?_) h
  obtain ⟨_, rfl⟩ := r1.inv; obtain ⟨_, rfl⟩ := r2.inv
  exact bytes_add_K (by simpa using hz) rfl fun t' tk => k _ _ (.bytes ..)
end
section
variable {w : World} {g : Heap} {μ : Mu} {P : Heap → AV → Mu → Prop}
theorem buffer_CX {x : List UInt8} (hp : P g (.bytes x) μ) : CX w 1 (.ref 56) [.bytes x] g μ P := by
  refine CX.top (n := 0) (ρ₀ := [(Str.ofString "data", .bytes x)]) (by exact rfl) (by exact rfl) (bind1 (x := Str.ofString "data") fun _ => rfl) rfl (by decide) (by decide) (by decide) (fun A L Rm => ?_)
  refine SX.cons (S1.assign (EX.call (n := 0) Rm ?_) (by exact .inl rfl))
  walk_at "tf"
  refine LX.cons ?_
  walk_at "nm"
  refine LX.nil (CX.typeBytes ?_)
  refine SX.cons (S1.ite (TX.cmp ?_))
  walk_at "nm"; walk_at "bv"
  refine OX2.isPlain rfl ⟨_, rfl, ?_⟩
  rw [if_pos (by rfl)]
  refine SX.cons (S1.ret ?_)
  walk_at "nm"
  exact hp
theorem truth_CX {b : Bool} (hp : P g (.bool b) μ) : CX w 1 (.ref 63) [.bool b] g μ P := by
  refine CX.top (n := 0) (ρ₀ := [(Str.ofString "x", .bool b)]) (by exact rfl) (by exact rfl) (bind1 (x := Str.ofString "x") fun _ => rfl) rfl (by decide) (by decide) (by decide) (fun A L Rm => ?_)
  refine SX.cons (S1.assign (EX.call (n := 0) Rm ?_) (by exact .inl rfl))
  walk_at "tf"
  refine LX.cons ?_
  walk_at "nm"
  refine LX.nil (CX.typeBool ?_)
  refine SX.cons (S1.ite (TX.chain (TXs.or (TX.cmp ?_))))
  walk_at "nm"
  refine EX.cnone (OX2.isNone (fun g v r => by obtain ⟨_, rfl⟩ := r.inv; nofun) ⟨_, rfl, ?_⟩)
  rw [if_neg (by decide)]
  refine TXs.or (TX.cmp ?_)
  walk_at "nm"; walk_at "bv"
  refine OX2.isPlain rfl ⟨_, rfl, ?_⟩
  rw [if_pos (by rfl)]
  rw [if_pos (by rfl)]
  refine SX.cons (S1.ret (EX.ite (TX.val ?_)))
  walk_at "nm"
  refine OT.bool ?_
  cases b with
  | true => rw [if_pos rfl]; exact EX.cbool hp
  | false => rw [if_neg (by decide)]; exact EX.cbool hp
end
end Mine
set_option tactic.hygienic false
open PySem PySem.W PySem.Calls PyProof.Rows
set_option Elab.async false
set_option maxRecDepth 100000
set_option linter.unusedVariables false
namespace Mine
noncomputable def alpha : List UInt8 := [65, 66, 67, 68, 69, 70, 71, 72, 73, 74, 75, 76, 77, 78, 79, 80, 81, 82, 83, 84, 85, 86, 87, 88, 89, 90, 97, 98, 99, 100, 101, 102, 103, 104, 105, 106, 107, 108, 109, 110, 111, 112, 113, 114, 115, 116, 117, 118, 119, 120, 121, 122, 48, 49, 50, 51, 52, 53, 54, 55, 56, 57, 43, 47]
noncomputable def ch (i : Nat) : UInt8 := alpha.getD i 0
noncomputable def emL (lc lb : Nat) : List UInt8 := if 6 ≤ lb then ch (lc / 2 ^ (lb - 6) % 64) :: emL lc (lb - 6) else []
termination_by lb
decreasing_by walk_at "od"
noncomputable def lcn (lc b : Nat) : Nat := (lc * 256 + b) % 65536
noncomputable def enc : Nat → Nat → List UInt8 → List UInt8
  | _, _, [] => []
  | lb, lc, b :: r => emL (lcn lc b.toNat) (lb + 8) ++ enc ((lb + 8) % 6) (lcn lc b.toNat) r
noncomputable def b64 : List UInt8 → List UInt8
  | a :: b :: c :: r => ch (a.toNat / 4) :: ch (a.toNat % 4 * 16 + b.toNat / 16) :: ch (b.toNat % 16 * 4 + c.toNat / 64) :: ch (c.toNat % 64) :: b64 r
  | _ => []
theorem enc_b64 : ∀ (r : List UInt8) (lc : Nat), r.length % 3 = 0 → enc 0 lc r = b64 r
  | [], _, _ => by simp [enc, b64]
  | [_], _, h => by simp at h
  | [_, _], _, h => by simp at h
  | a :: b :: c :: r, lc, h => by
    have ih := enc_b64 r (lcn (lcn (lcn lc a.toNat) b.toNat) c.toNat) (by simp only [List.length_cons] at h; walk_at "od")
    have ha := a.toNat_lt; have hb := b.toNat_lt; have hc := c.toNat_lt
    have e1 : lcn lc a.toNat / 4 % 64 = a.toNat / 4 := by unfold lcn; walk_at "od"
    have e2 : lcn (lcn lc a.toNat) b.toNat / 16 % 64 = a.toNat % 4 * 16 + b.toNat / 16 := by unfold lcn; walk_at "od"
    have e3 : lcn (lcn (lcn lc a.toNat) b.toNat) c.toNat / 64 % 64 = b.toNat % 16 * 4 + c.toNat / 64 := by unfold lcn; walk_at "od"
    have e4 : lcn (lcn (lcn lc a.toNat) b.toNat) c.toNat / 1 % 64 = c.toNat % 64 := by unfold lcn; walk_at "od"
    have m1 : emL (lcn lc a.toNat) 8 = [ch (a.toNat / 4)] := by
      rw [emL, if_pos (by decide), emL, if_neg (by decide)]
      simp only [show 2 ^ (8 - 6) = 4 by rfl, e1]
    have m2 : emL (lcn (lcn lc a.toNat) b.toNat) 10 = [ch (a.toNat % 4 * 16 + b.toNat / 16)] := by
      rw [emL, if_pos (by decide), emL, if_neg (by decide)]
      simp only [show 2 ^ (10 - 6) = 16 by rfl, e2]
    have m3 : emL (lcn (lcn (lcn lc a.toNat) b.toNat) c.toNat) 12 = [ch (b.toNat % 16 * 4 + c.toNat / 64), ch (c.toNat % 64)] := by
      rw [emL, if_pos (by decide), emL, if_pos (by decide), emL, if_neg (by decide)]
      simp only [show 2 ^ (12 - 6) = 64 by rfl, show 2 ^ (12 - 6 - 6) = 1 by rfl, e3, e4]
    simp only [enc, show 0 + 8 = 8 by rfl, show 8 % 6 = 2 by rfl, show 2 + 8 = 10 by rfl, show 10 % 6 = 4 by rfl, show 4 + 8 = 12 by rfl, show 12 % 6 = 0 by rfl, m1, m2, m3, ih, b64, List.cons_append, List.nil_append]
theorem and_low (x b : Nat) (hb : b < 256) : x * 256 &&& b = 0 := by
  have e : b = b &&& (2 ^ 8 - 1) := by rw [Nat.and_two_pow_sub_one_eq_mod]; walk_at "od"
  rw [e, Nat.and_comm b, ← Nat.and_assoc, Nat.and_two_pow_sub_one_eq_mod]
  have : x * 256 % 2 ^ 8 = 0 := by walk_at "od"
  rw [this, Nat.zero_and]
theorem bits_in (lc b : Nat) (hb : b < 256) : Builtin.bitAnd (Builtin.bitOr ((lc : Int) * 2 ^ (8 : Int).toNat) (b : Int)) 65535 = ((lcn lc b : Nat) : Int) := by
  have e0 : (lc : Int) * 2 ^ (8 : Int).toNat = ((lc * 256 : Nat) : Int) := by rw [show (2 : Int) ^ (8 : Int).toNat = 256 by rfl]; walk_at "od"
  have e1 : Builtin.bitOr ((lc * 256 : Nat) : Int) (b : Int) = ((lc * 256 + b : Nat) : Int) := by
    rw [bitOr_and, bitAnd_pp (by walk_at "od") (by walk_at "od"), Int.toNat_natCast, Int.toNat_natCast, and_low lc b hb]; walk_at "od"
  rw [e0, e1, bitAnd_pp (by walk_at "od") (by walk_at "od"), Int.toNat_natCast, show (65535 : Int).toNat = 2 ^ 16 - 1 by rfl, Nat.and_two_pow_sub_one_eq_mod]
  rfl
theorem bits_out (lc k : Nat) : Builtin.bitAnd ((lc : Int).fdiv (2 ^ ((k : Nat) : Int).toNat)) 63 = ((lc / 2 ^ k % 64 : Nat) : Int) := by
  have e0 : (lc : Int).fdiv (2 ^ ((k : Nat) : Int).toNat) = ((lc / 2 ^ k : Nat) : Int) := by
    rw [Int.toNat_natCast, Int.fdiv_eq_ediv_of_nonneg _ (Int.pow_nonneg (by decide))]
    rw [Int.natCast_ediv, Int.natCast_pow]; rfl
  rw [e0, bitAnd_pp (Int.natCast_nonneg _) (by walk_at "od"), Int.toNat_natCast, show (63 : Int).toNat = 2 ^ 6 - 1 by rfl, Nat.and_two_pow_sub_one_eq_mod]
theorem ch_get (i : Nat) : (alpha.getD i 0) = ch i := rfl
section
variable {w : World} {g : Heap} {μ : Mu} {P : Heap → AV → Mu → Prop}
theorem bindK {fd : FuncData} {a b : AV} {x y kn : Str} (h : ∀ v u, bindArgs fd ⟨[v], [(kn, u)]⟩ = pure [(x, v), (y, u)]) (s : Shared) (vs ks : List Value) (_ : (KF w).In s.heap) (r : RVs g [a] vs) (rk : RVs g [b] ks) :
    ∃ binds, BindsTo s fd ⟨vs, [kn].zip ks⟩ binds ∧ binds.map (·.1) = [x, y] ∧ RVs g ([(x, a), (y, b)].map (·.2)) (binds.map (·.2)) := by
  obtain ⟨v, rfl, h1⟩ := r.one
  obtain ⟨u, rfl, h2⟩ := rk.one
  exact ⟨_, .of_eq (h v u), rfl, .cons h1 (.cons h2 .nil)⟩
theorem CKX.top {n : Nat} {f : Addr} {name qual : Str} {params : Arguments} {body : List Stmt} {scope : Scope} {dV kV doc pm cdv ct oc : Value} {an od : Option Addr} {osl : Array (Option Value)} {args kargs : List AV} {kn : List Str} {ρ₀ : Vars} {names : List Str}
    (hK : (KF w).lookup f = some ⟨oc, od, .func (fnOf name qual params body scope dV kV doc pm an cdv ct), osl⟩) (hcd : codeIn (KF w) cdv qual = true)
    (hb : ∀ (s : Shared) (vs ks : List Value), (KF w).In s.heap → RVs g args vs → RVs g kargs ks → ∃ binds, BindsTo s (fnOf name qual params body scope dV kV doc pm an cdv ct) ⟨vs, kn.zip ks⟩ binds ∧ binds.map (·.1) = names ∧ RVs g (ρ₀.map (·.2)) (binds.map (·.2)))
    (hnm : ρ₀.map (·.1) = names) (nd : names.Nodup) (hloc : ∀ x ∈ names, scope.names.lookup x = some .local) (hcell : ∀ x ∈ scope.names, x.2 ≠ .cell)
    (h : ∀ A L, Room A n → SX w A (callEnv (fnOf name qual params body scope dV kV doc pm an cdv ct) L f) body g ρ₀ μ fun g' fl ρ' μ' => P g' (retOf fl) μ')
    (hco : scope.isCoroutine = false := by rfl) (hgen : scope.isGenerator = false := by rfl) (hk : scope.kind = .function := by rfl) : CKX w (n + 1) (.ref f) args kn kargs g μ P :=
  CKX.def (ρf := []) (fun B => B.K _ _ hK) rfl (fun B => codeRec_of B.K hcd) rfl (fun s vs ks k r rk => hnm ▸ hb s vs ks k r rk) (hnm ▸ nd) (hnm ▸ hloc) hcell (fun x hx => nomatch hx) (fun B x a hx => nomatch hx) (fun B x c hx => nomatch hx) (fun x y c hx => nomatch hx) rfl rfl
    (fun A L R => by rw [List.append_nil]; exact h A L R) hco hgen hk
noncomputable abbrev B2W (x : List UInt8) (lc lb : Nat) (b : UInt8) (out : List UInt8) (ad : Addr) (g : Heap) : Nat → Heap → Vars → Mu → Prop := fun k g' ρ' μ' => ∃ (lb' : Nat) (out' : List UInt8), k = lb' ∧ Le g g' ∧ ρ' = [(Str.ofString "data", .bytes x), (Str.ofString "newline", .bool false), (Str.ofString "bin_data", .bytes x), (Str.ofString "out", .mlist ad), (Str.ofString "leftbits", .int lb'), (Str.ofString "leftchar", .int (lcn lc b.toNat : Nat)), (Str.ofString "b", .int b.toNat)] ∧ μ' = some (.lst ad (byts out')) ∧ lb' % 6 = (lb + 8) % 6 ∧ lb' ≤ lb + 8 ∧ (out'.length = out.length + (lb + 8 - lb') / 6) ∧ out' ++ emL (lcn lc b.toNat) lb' = out ++ emL (lcn lc b.toNat) (lb + 8)
noncomputable abbrev B2I (x : List UInt8) (ad : Addr) (g : Heap) : List AV → Heap → Vars → Mu → Prop := fun vs g' ρ' μ' => ∃ (r : List UInt8) (lb lc : Nat) (out : List UInt8), vs = byts r ∧ Le g g' ∧ ρ' = [(Str.ofString "data", .bytes x), (Str.ofString "newline", .bool false), (Str.ofString "bin_data", .bytes x), (Str.ofString "out", .mlist ad), (Str.ofString "leftbits", .int lb), (Str.ofString "leftchar", .int lc)] ∧ μ' = some (.lst ad (byts out)) ∧ lb < 6 ∧ lc < 65536 ∧ (lb + 8 * r.length) % 6 = 0 ∧ out.length + 2 * r.length ≤ 2 * x.length ∧ out ++ enc lb lc r = b64 x
theorem b2a_CX {x : List UInt8} (h3 : x.length % 3 = 0) (hz : x.length ≤ 2 ^ 20) (hp : ∀ g', Le g g' → P g' (.bytes (b64 x)) none) : CKX w 2 (.ref 71) [.bytes x] [Str.ofString "newline"] [.bool false] g none P := by
  refine CKX.top (n := 1) (ρ₀ := [(Str.ofString "data", .bytes x), (Str.ofString "newline", .bool false)]) (by exact rfl) (by exact rfl) (bindK (x := Str.ofString "data") (y := Str.ofString "newline") fun _ _ => rfl) rfl (by decide) (by decide) (by decide) (fun A L Rm => ?_)
  refine SX.cons (S1.assign (EX.call (n := 1) Rm ?_) (by exact .inl rfl))
  walk_at "fn"
  refine LX.cons ?_
  walk_at "nm"
  refine LX.nil (buffer_CX ?_)
  refine SX.cons (S1.assign (EX.call (n := 1) Rm ?_) (by exact .inl rfl))
  walk_at "fn"
  refine LX.cons ?_
  walk_at "nm"
  refine LX.nil (truth_CX ?_)
  refine SX.cons (S1.assign (EX.listM (LX.nil ⟨by decide, rfl, fun ad => ?_⟩)) (by exact .inl rfl))
  refine SX.cons (S1.assign (EX.cint ?_) (by exact .inl rfl))
  refine SX.cons (S1.assign (EX.cint ?_) (by exact .inl rfl))
  refine SX.cons (S1.for ?_)
  walk_at "nm"
  refine ⟨_, Src.bytes Rm.hh, ForX.inv (B2I x ad g) ?_ ?_ ⟨x, 0, 0, [], rfl, .refl _, rfl, rfl, by decide, by decide, by walk_at "od", by simp, by rw [List.nil_append]; exact enc_b64 x 0 h3⟩⟩
  · rintro v vs g₁ _ _ ⟨r, lb, lc, out, hv, lg, rfl, rfl, hlb, hlc, hm, hol, he⟩
    cases r with
    | nil => cases hv
    | cons b r =>
    simp only [byts, List.map_cons, List.cons.injEq] at hv
    obtain ⟨rfl, rfl⟩ := hv
    simp only [List.length_cons] at hol hm
    refine ⟨_, AsX.name (.inl (by rfl)), SX.forget ?_⟩
    refine SX.cons (S1.assign (EX.bin (EX.bin (EX.bin ?_))) (by exact .inl rfl))
    walk_at "nm"
    refine EX.cint (OX2.shl (by decide) (by decide) (by walk_at "od") ?_)
    walk_at "nm"
    refine OX2.or (EX.cint (OX2.and ?_))
    rw [bits_in lc b.toNat b.toNat_lt]
    refine SX.cons (S1.assign (EX.bin ?_) (by exact .inl rfl))
    walk_at "nm"
    refine EX.cint (OX2.add ?_)
    refine SX.cons (S1.while (B2W x lc lb b out ad g) ?_ (lb + 8) ⟨lb + 8, out, rfl, lg, rfl, rfl, rfl, Nat.le_refl _, by simp, rfl⟩)
    rintro k g₂ _ _ ⟨lb', out', rfl, lg₂, rfl, rfl, hm', hle, hol', he'⟩
    refine TX.cmp ?_
    walk_at "nm"
    refine EX.cint (OX2.ge ⟨_, rfl, ?_⟩)
    by_cases h6 : 6 ≤ k
    · rw [if_pos (by rw [decide_eq_true_eq]; walk_at "od")]
      rw [emL, if_pos h6] at he'
      refine SX.cons (S1.expr (EX.meth (n := 0) (id := "list.append") (Rm.le (by walk_at "od")) ?_))
      walk_at "nm"
      refine ⟨GetM.append, LX.cons (EX.sub ?_)⟩
      refine EX.glob (by rfl) (by rfl) (fun _ => .bytes alpha _) (EX.bin (EX.bin ?_))
      walk_at "nm"
      refine EX.bin ?_
      walk_at "nm"
      refine EX.cint (OX2.sub ?_)
      rw [show ((k : Int) - 6) = ((k - 6 : Nat) : Int) by walk_at "od"]
      refine OX2.shr (by walk_at "od") (EX.cint (OX2.and ?_))
      rw [bits_out]
      refine OX2.itemB ⟨fun _ _ => rfl, fun _ _ => rfl⟩ (by decide) (by walk_at "od") (by have : alpha.length = 64 := rfl; walk_at "od") ?_
      rw [Int.toNat_natCast, ch_get]
      refine LX.nil (CX.append (by rw [List.length_map]; walk_at "od") ⟨rfl, ?_⟩)
      refine SX.cons (S1.assign (EX.bin ?_) (by exact .inl rfl))
      walk_at "nm"
      refine EX.cint (OX2.sub ?_)
      refine SX.nil ⟨k - 6, by walk_at "od", k - 6, out' ++ [ch (lcn lc b.toNat / 2 ^ (k - 6) % 64)], rfl, lg₂, ?_, by simp [byts], by walk_at "od", by walk_at "od", by simp; walk_at "od", by simpa using he'⟩
      rw [show ((k : Int) - 6) = ((k - 6 : Nat) : Int) by walk_at "od"]; rfl
    · rw [if_neg (by rw [decide_eq_true_eq]; walk_at "od")]
      rw [emL, if_neg h6] at he'
      have ek : k = (lb + 8) % 6 := by walk_at "od"
      refine SX.nil ⟨[(Str.ofString "data", .bytes x), (Str.ofString "newline", .bool false), (Str.ofString "bin_data", .bytes x), (Str.ofString "out", .mlist ad), (Str.ofString "leftbits", .int k), (Str.ofString "leftchar", .int (lcn lc b.toNat : Nat))], ⟨rfl, rfl, rfl, rfl, rfl, rfl, trivial⟩,
        r, k, lcn lc b.toNat, out', rfl, lg₂, rfl, rfl, by walk_at "od", by unfold lcn; walk_at "od", by walk_at "od", by walk_at "od", ?_⟩
      simp only [List.append_nil] at he'
      rw [he', List.append_assoc, ek]
      exact he
  · rintro g₁ _ _ ⟨r, lb, lc, out, hv, lg, rfl, rfl, hlb, hlc, hm, hol, he⟩
    have hr : r = [] := by cases r with | nil => rfl | cons b r => cases hv
    subst hr
    simp only [List.length_nil, Nat.mul_zero, Nat.add_zero] at hm hol
    have hl0 : lb = 0 := by walk_at "od"
    subst hl0
    simp only [enc, List.append_nil] at he
    subst he
    refine SX.cons (S1.ite (TX.cmp ?_))
    walk_at "nm"
    refine EX.cint (OX2.eq ⟨_, rfl, ?_⟩)
    rw [if_neg (by decide)]
    refine SX.cons (S1.ite (TX.cmp ?_))
    walk_at "nm"
    refine EX.cint (OX2.eq ⟨_, rfl, ?_⟩)
    rw [if_neg (by decide)]
    refine SX.nil (SX.nil ?_)
    refine SX.cons (S1.ite (TX.val ?_))
    walk_at "nm"
    refine OT.bool ?_
    rw [if_neg (by decide)]
    refine SX.nil (SX.cons (S1.ret (EX.call (n := 0) (Rm.le (by walk_at "od")) ?_)))
    walk_at "tf"
    refine LX.cons ?_
    walk_at "nm"
    refine LX.nil (CX.drop (CX.bytesM (by walk_at "od") ?_))
    exact hp g₁ lg
end
end Mine
set_option tactic.hygienic false
open PySem PySem.W PySem.Calls PyProof.Rows
set_option Elab.async false
set_option maxRecDepth 100000
set_option linter.unusedVariables false
namespace Mine
theorem slot_bytes_lt : Slot "bytes" (cmpInfo .Lt).2.1 "bytes.__lt__" :=
  .of (owner := "bytes") (n := "__lt__") (by rw [typeLookup_type, builtinLookup_eq_fast]; kernel_rfl) (by decide +kernel) (by decide +kernel) (by decide +kernel)
    (by first | exact .inl (by decide +kernel) | exact .inr (by decide +kernel)) (by rw [isSubtype_type]; kernel_rfl)
theorem entry_bytes_lt : entryFor table "bytes.__lt__" = some Builtin.«bytes.__lt__» := entryFor_of_tree (by kernel_rfl)
theorem args_bytes_lt_2 (a b : Value) : argsOk "bytes.__lt__" ⟨[a, b], []⟩ := by
  unfold argsOk; rw [signature?_of (id := "bytes.__lt__") (n := ['_', '_', 't', 'l', '_', '_']) (o := ['s', 'e', 't', 'y', 'b']) (by kernel_rfl) FB.owner_bytes]; kernel_rfl
theorem slot_bytes_gt : Slot "bytes" (cmpInfo .Gt).2.1 "bytes.__gt__" :=
  .of (owner := "bytes") (n := "__gt__") (by rw [typeLookup_type, builtinLookup_eq_fast]; kernel_rfl) (by decide +kernel) (by decide +kernel) (by decide +kernel)
    (by first | exact .inl (by decide +kernel) | exact .inr (by decide +kernel)) (by rw [isSubtype_type]; kernel_rfl)
theorem entry_bytes_gt : entryFor table "bytes.__gt__" = some Builtin.«bytes.__gt__» := entryFor_of_tree (by kernel_rfl)
theorem args_bytes_gt_2 (a b : Value) : argsOk "bytes.__gt__" ⟨[a, b], []⟩ := by
  unfold argsOk; rw [signature?_of (id := "bytes.__gt__") (n := ['_', '_', 't', 'g', '_', '_']) (o := ['s', 'e', 't', 'y', 'b']) (by kernel_rfl) FB.owner_bytes]; kernel_rfl
theorem gives_bytes_lt (b c : Array UInt8) (t u : Tok) : Gives (Builtin.«bytes.__lt__» ⟨[.bytes b t, .bytes c u], []⟩) (.val (.bool (Builtin.Bytes.order b.toList c.toList == .lt))) := by
  refine .of_wp fun M A E s Q hq => ?_
  show wpAny M A (isInstance (.bytes c u) (.type "bytes") >>= fun r => _) _ E s
  refine wpAny_bind (wpAny_isInstance (PySem.W.typeIs_bytes s c u) F.sub_bytes_bytes ?_)
  exact wpAny_pure ⟨_, rfl, hq⟩
theorem gives_bytes_gt (b c : Array UInt8) (t u : Tok) : Gives (Builtin.«bytes.__gt__» ⟨[.bytes b t, .bytes c u], []⟩) (.val (.bool (Builtin.Bytes.order b.toList c.toList == .gt))) := by
  refine .of_wp fun M A E s Q hq => ?_
  show wpAny M A (isInstance (.bytes c u) (.type "bytes") >>= fun r => _) _ E s
  refine wpAny_bind (wpAny_isInstance (PySem.W.typeIs_bytes s c u) F.sub_bytes_bytes ?_)
  exact wpAny_pure ⟨_, rfl, hq⟩
noncomputable abbrev ord (a b : List UInt8) : Ordering := Builtin.Bytes.order a b
section
variable {w : World} {A : Around} {g : Heap} {μ : Mu} {P : Heap → AV → Mu → Prop}
theorem OX2.ltB {a b : List UInt8} (h : P g (.bool (ord a b == .lt)) μ) : OX2 w A (compareOp .Lt) (.bytes a) (.bytes b) g μ P := by
  refine pure2 (fun s E Q va vb g r1 r2 k => ?_) h
  obtain ⟨t, rfl⟩ := r1.inv; obtain ⟨u, rfl⟩ := r2.inv
  exact compareOp_gives (op := .Lt) (PySem.W.typeIs_bytes s _ t) (PySem.W.typeIs_bytes s _ u) slot_bytes_lt entry_bytes_lt (args_bytes_lt_2 _ _) (gives_bytes_lt a.toArray b.toArray t u) (fun e => nomatch e) (k _ s.toks (.bool _))
theorem OX2.gtB {a b : List UInt8} (h : P g (.bool (ord a b == .gt)) μ) : OX2 w A (compareOp .Gt) (.bytes a) (.bytes b) g μ P := by
  refine pure2 (fun s E Q va vb g r1 r2 k => ?_) h
  obtain ⟨t, rfl⟩ := r1.inv; obtain ⟨u, rfl⟩ := r2.inv
  exact compareOp_gives (op := .Gt) (PySem.W.typeIs_bytes s _ t) (PySem.W.typeIs_bytes s _ u) slot_bytes_gt entry_bytes_gt (args_bytes_gt_2 _ _) (gives_bytes_gt a.toArray b.toArray t u) (fun e => nomatch e) (k _ s.toks (.bool _))
theorem CX.intBool {b : Bool} (h : P g (.int (if b then 1 else 0)) μ) : CX w 0 (.type "int") [.bool b] g μ P := by
  intro A s E Q vs Rm B le M r k
  obtain ⟨v, rfl, r1⟩ := r.one
  obtain ⟨_, rfl⟩ := r1.inv
  exact call_int_bool (k g _ μ _ s.heap _ h (.refl le M) (.int ..))
end
end Mine
set_option tactic.hygienic false
open PySem PySem.W PySem.Calls PyProof.Rows
set_option Elab.async false
set_option maxRecDepth 100000
set_option linter.unusedVariables false
namespace Mine
noncomputable def IsRow (a : List UInt8) : Prop := a.length % 3 = 0 ∧ a.length ≤ 6
noncomputable def cmpI (a b : List UInt8) : Int := if ord (b64 (a ++ b)) (b64 (b ++ a)) == .lt then -1 else if ord (b64 (a ++ b)) (b64 (b ++ a)) == .gt then 1 else 0
section
variable {w : World} {g : Heap} {μ : Mu} {P : Heap → AV → Mu → Prop}
theorem b64encode_CX {x : List UInt8} (h3 : x.length % 3 = 0) (hz : x.length ≤ 2 ^ 20) (hp : ∀ g', Le g g' → P g' (.bytes (b64 x)) μ) : CX w 3 (.ref 79) [.bytes x] g μ P := by
  refine CX.frame (P' := fun g' a μ' => Le g g' ∧ a = .bytes (b64 x) ∧ μ' = none) ?_ (fun g' a h => by obtain ⟨l, rfl, _⟩ := h; exact hp g' l) (fun g' a μ' h => h.2.2)
  refine CX.top (n := 2) (ρ₀ := [(Str.ofString "s", .bytes x), (Str.ofString "altchars", .none)]) (names := [Str.ofString "s", Str.ofString "altchars"]) (by exact rfl) (by exact rfl) (fun s vs X r => ?_) rfl (by decide) (by decide) (by decide) (fun A L Rm => ?_)
  · obtain ⟨v, rfl, r1⟩ := r.one
    exact ⟨[(Str.ofString "s", v), (Str.ofString "altchars", .none)], binds_K X (T := 72) rfl (by rfl) rfl (by rfl) (by rfl), rfl, .cons r1 (.cons .none .nil)⟩
  refine SX.cons (S1.assign (EX.callK (n := 2) Rm ?_) (by exact .inl rfl))
  walk_at "fn"
  refine LX.cons ?_
  walk_at "nm"
  refine LX.nil (EX.cbool (b2a_CX h3 hz fun g' lg => ?_))
  refine SX.cons (S1.ite (TX.cmp ?_))
  walk_at "nm"
  refine EX.cnone (OX2.isNotNone0 ⟨_, rfl, ?_⟩)
  rw [if_neg (by decide)]
  refine SX.nil (SX.cons (S1.ret ?_))
  walk_at "nm"
  exact ⟨lg, rfl, rfl⟩
theorem compare_CX {a b : List UInt8} (ha : IsRow a) (hb : IsRow b) (hp : ∀ g', Le g g' → P g' (.int (cmpI a b)) μ) : CX w 4 (.ref 107) [.bytes a, .bytes b] g μ P := by
  have ha2 := ha.2; have hb2 := hb.2; have ha1 := ha.1; have hb1 := hb.1
  refine CX.top (n := 3) (ρ₀ := [(Str.ofString "one", .bytes a), (Str.ofString "two", .bytes b)]) (by exact rfl) (by exact rfl) (bind2 (x := Str.ofString "one") (y := Str.ofString "two") fun _ _ => rfl) rfl (by decide) (by decide) (by decide) (fun A L Rm => ?_)
  refine SX.cons (S1.assignT2 (x := Str.ofString "ahead") (y := Str.ofString "behind") (EX.tuple (LX.cons (EX.call (n := 3) Rm ?_))) Rm.hh (.inl (by rfl)) (.inl (by rfl)))
  walk_at "fn"
  refine LX.cons (EX.bin ?_)
  walk_at "nm"; walk_at "nm"
  refine OX2.addB (by walk_at "om") (LX.nil (b64encode_CX (by simp; walk_at "om") (by simp; walk_at "om") fun g₁ l₁ => LX.cons (EX.call (n := 3) Rm ?_)))
  walk_at "fn"
  refine LX.cons (EX.bin ?_)
  walk_at "nm"; walk_at "nm"
  refine OX2.addB (by walk_at "om") (LX.nil (b64encode_CX (by simp; walk_at "om") (by simp; walk_at "om") fun g₂ l₂ => LX.nil ⟨by show 2 ≤ _; rw [sizeLine_eq]; walk_at "om", fun g₃ l₃ => ⟨_, _, rfl, ?_⟩⟩))
  have l := (l₁.trans l₂).trans l₃
  refine SX.cons (S1.ret (EX.ite (TX.cmp ?_)))
  walk_at "nm"; walk_at "nm"
  refine OX2.ltB ⟨_, rfl, ?_⟩
  by_cases hl : (ord (b64 (a ++ b)) (b64 (b ++ a)) == .lt) = true
  · rw [if_pos hl]
    refine EX.un (EX.cint (OX1.neg ?_))
    have := hp g₃ l
    rw [cmpI, if_pos hl] at this
    exact this
  · rw [if_neg hl]
    refine EX.call (n := 0) (Rm.le (by walk_at "om")) ?_
    walk_at "tf"
    refine LX.cons (EX.cmp ?_)
    walk_at "nm"; walk_at "nm"
    refine OX2.gtB (LX.nil (CX.intBool ?_))
    have := hp g₃ l
    rw [cmpI, if_neg hl] at this
    exact this
end
end Mine
set_option tactic.hygienic false
open PySem PySem.W PySem.Calls PyProof.Rows
set_option Elab.async false
set_option maxRecDepth 100000
set_option linter.unusedVariables false
namespace Mine
theorem bindL_skip {kindOf : Str → Option NameKind} : ∀ {binds : List (Str × Value)} {m : Str → Option Value} {x : Str}, x ∉ binds.map (·.1) → bindL kindOf binds m x = m x
  | [], _, _, _ => rfl
  | (n, v) :: r, m, x, h => by
    simp only [List.map_cons, List.mem_cons, not_or] at h
    rw [bindL, bindL_skip h.2]
    split
    · exact if_neg h.1
    · rfl
theorem bindC_skip {kindOf : Str → Option NameKind} : ∀ {binds : List (Str × Value)} {m : Str → Option Value} {x : Str}, x ∉ binds.map (·.1) → bindC kindOf binds m x = m x
  | [], _, _, _ => rfl
  | (n, v) :: r, m, x, h => by
    simp only [List.map_cons, List.mem_cons, not_or] at h
    rw [bindC, bindC_skip h.2]
    split
    · rfl
    · exact if_neg h.1
theorem bindL_get {kindOf : Str → Option NameKind} : ∀ {binds : List (Str × Value)} {m : Str → Option Value} {x : Str} {v : Value}, (binds.map (·.1)).Nodup → (x, v) ∈ binds → kindOf x = some .local → bindL kindOf binds m x = some v
  | (n, u) :: r, m, x, v, nd, hm, hk => by
    rw [List.map_cons, List.nodup_cons] at nd
    rcases List.mem_cons.mp hm with e | hm
    · cases e
      rw [bindL, bindL_skip nd.1, if_pos hk]
      exact if_pos rfl
    · rw [bindL]; exact bindL_get nd.2 hm hk
theorem bindC_get {kindOf : Str → Option NameKind} : ∀ {binds : List (Str × Value)} {m : Str → Option Value} {x : Str} {v : Value}, (binds.map (·.1)).Nodup → (x, v) ∈ binds → kindOf x ≠ some .local → bindC kindOf binds m x = some v
  | (n, u) :: r, m, x, v, nd, hm, hk => by
    rw [List.map_cons, List.nodup_cons] at nd
    rcases List.mem_cons.mp hm with e | hm
    · cases e
      rw [bindC, bindC_skip nd.1, if_neg hk]
      exact if_pos rfl
    · rw [bindC]; exact bindC_get nd.2 hm hk
noncomputable def KindOk (scope : Scope) (L : Addr) : List Str → Prop
  | [] => True
  | x :: r => (scope.names.lookup x = some .local ∨ (scope.names.lookup x = some .cell ∧ ((cellsFrom (L + 1) scope.names []).lookup x).isSome = true)) ∧ KindOk scope L r
theorem KindOk.mem {scope : Scope} {L : Addr} : ∀ {r : List Str}, KindOk scope L r → ∀ {x : Str}, x ∈ r → scope.names.lookup x = some .local ∨ (scope.names.lookup x = some .cell ∧ ((cellsFrom (L + 1) scope.names []).lookup x).isSome = true)
  | y :: r, h, x, hx => by
    rcases List.mem_cons.mp hx with rfl | hx
    · exact h.1
    · exact h.2.mem hx
section
variable {w : World} {g : Heap} {μ : Mu} {P : Heap → AV → Mu → Prop}
theorem Rel.enterC {s s₁ : Shared} {env : Env} {ρ₀ : Vars} {binds : List (Str × Value)} (B : Base w g) (le : Le g s.heap) (M : MuRel g μ s.heap) (fn : env.scope.kind = .function) (gl : env.globals = mainGlobals) (bl : env.builtins = builtinsNs)
    (hL : env.locals = s.heap.objs.size) (x : InCallC s env.locals (bindL env.kindOf binds fun _ => none) env.cells (bindC env.kindOf binds fun _ => none) s₁)
    (h1 : binds.map (·.1) = ρ₀.map (·.1)) (r : RVs g (ρ₀.map (·.2)) (binds.map (·.2))) (nd : (ρ₀.map (·.1)).Nodup) (hsome : ∀ y ∈ ρ₀.map (·.1), env.kindOf y = some .cell → (env.cells.lookup y).isSome = true) (hnf : ∀ y ∈ ρ₀.map (·.1), env.kindOf y ≠ some .free) :
    Rel w g env ρ₀ μ s₁.heap ∧ (∀ b o, s.heap.get? b = some o → ¬ own env b) := by
  obtain ⟨h', tk, e, kp⟩ := x.done
  have kp : Le s.heap s₁.heap := by rw [e]; exact kp
  have off : ∀ b, s.heap.objs.size ≤ b → s.heap.get? b = none := fun b hb => by
    cases q : s.heap.get? b with
    | none => rfl
    | some o => exact absurd (Nat.lt_of_lt_of_le (Heap.lt_size q) hb) (Nat.lt_irrefl _)
  have cl : ∀ y c, env.cells.lookup y = some c → s.heap.get? c = none := fun y c hc => off c (by rw [← hL]; exact Nat.le_of_lt (x.above y c (mem_of_lookup hc)))
  have nown : ∀ b o, s.heap.get? b = some o → ¬ own env b := fun b o q => by
    rintro (rfl | ⟨y, _, hy⟩)
    · rw [hL, off _ (Nat.le_refl _)] at q; cases q
    · rw [cl y b hy] at q; cases q
  have M₁ : MuRel g μ s₁.heap := M.keep (.refl _) (fun b _ o e => kp b o e) M.off
  have ndb : (binds.map (·.1)).Nodup := by rw [h1]; exact nd
  refine ⟨⟨B, le.trans kp, ⟨fn, gl, bl, ⟨_, x.toInCall.ns, fun y a hy hk => ?_⟩, le.none (by rw [hL]; exact off _ (Nat.le_refl _)), fun y a hy hk => ?_, fun y c hc => ⟨⟨_, x.cell y c hc⟩, ?_, fun _ => le.none (cl y c hc)⟩, fun y z c hy hz => name_of_addr x.apart (mem_of_lookup hy) (mem_of_lookup hz)⟩, M₁, fun b m => ?_⟩, nown⟩
  · obtain ⟨v, hm, rv⟩ := lookup_rel h1 r hy
    exact ⟨v, bindL_get ndb hm hk, rv⟩
  · obtain ⟨v, hm, rv⟩ := lookup_rel h1 r hy
    have hmem : y ∈ ρ₀.map (·.1) := List.mem_map.mpr ⟨(y, a), mem_of_lookup hy, rfl⟩
    have hk' : env.kindOf y = some .cell := hk.elim id fun q => absurd q (hnf y hmem)
    obtain ⟨c, hc⟩ := Option.isSome_iff_exists.mp (hsome y hmem hk')
    refine ⟨c, v, hc, ?_, rv⟩
    have := x.cell y c hc
    rwa [bindC_get ndb hm (by rw [hk']; nofun)] at this
  · exact Nat.ne_of_gt (x.above y c (mem_of_lookup hc))
  · obtain ⟨o₂, m2⟩ := M.there b m
    exact ⟨nown b _ m2, fun y hy => by rw [cl y b hy] at m2; cases m2⟩
theorem CX.topC {n : Nat} {f : Addr} {name qual : Str} {params : Arguments} {body : List Stmt} {scope : Scope} {dV kV doc pm cdv ct oc : Value} {an od : Option Addr} {osl : Array (Option Value)} {args : List AV} {ρ₀ : Vars} {names : List Str}
    (hK : (KF w).lookup f = some ⟨oc, od, .func (fnOf name qual params body scope dV kV doc pm an cdv ct), osl⟩) (hcd : codeIn (KF w) cdv qual = true)
    (hb : ∀ (vs : List Value), RVs g args vs → ∃ binds, bindArgs (fnOf name qual params body scope dV kV doc pm an cdv ct) ⟨vs, []⟩ = pure binds ∧ binds.map (·.1) = names ∧ RVs g (ρ₀.map (·.2)) (binds.map (·.2)))
    (hnm : ρ₀.map (·.1) = names) (nd : names.Nodup) (hk : ∀ L, KindOk scope L names)
    (h : ∀ A L, Room A n → SX w A (callEnvC (fnOf name qual params body scope dV kV doc pm an cdv ct) L f) body g ρ₀ μ fun g' fl ρ' μ' => P g' (retOf fl) μ')
    (hco : scope.isCoroutine = false := by rfl) (hgen : scope.isGenerator = false := by rfl) (hkd : scope.kind = .function := by rfl) : CX w (n + 1) (.ref f) args g μ P := by
  intro A s E Q vs Rm B le M r k
  obtain ⟨p, l, me, mg, mb, T⟩ := B.T
  obtain ⟨binds, hb1, hb2, hb3⟩ := hb vs r
  have hkk := hk s.heap.objs.size
  refine wpAny_call (codeAny_call_cells (by have := Rm.dp; walk_at "om") (le _ _ (B.K _ _ hK)) rfl ((T.nolimit).keeps le) ((codeRec_of B.K hcd).keeps le) rfl hb1 rfl (fun x hx => ?_) (fun s₁ x => ?_) hco hgen hkd)
  · exact hkk.mem (hb2 ▸ List.mem_map_of_mem hx)
  obtain ⟨R₁, nown⟩ := Rel.enterC (w := w) (ρ₀ := ρ₀) B le M hkd rfl rfl rfl x (hb2.trans hnm.symm) hb3 (hnm ▸ nd) (fun y hy hyk => by
    rcases hkk.mem (hnm ▸ hy) with q | q
    · exact absurd ((show scope.names.lookup y = some .cell from hyk).symm.trans q) nofun
    · exact q.2) (fun y hy hyk => by
    rcases hkk.mem (hnm ▸ hy) with q | q
    · exact absurd ((show scope.names.lookup y = some .free from hyk).symm.trans q) nofun
    · exact absurd ((show scope.names.lookup y = some .free from hyk).symm.trans q.1) nofun)
  obtain ⟨h₁, tk₁, rfl, kp⟩ := x.done
  have kd : ∀ b o, s.heap.get? b = some o → ∃ o', h₁.get? b = some o' := fun b o e => ⟨o, kp b o e⟩
  refine h _ _ (Rm.deeper _) _ _ _ R₁ fun g' fl' ρ' μ' fl h' tk p b R r => ?_
  have bk : Bk w noF μ g s.heap μ' g' h' := ⟨⟨b.st.le, fun b' o e => (b.st.fresh b' o e).imp id fun q => dom_none kd q, fun b' o e _ m => b.st.kp b' o (kp _ _ e) (nown b' o e) m, fun b' o e => b.st.dom b' o (kp _ _ e), fun b' m => (b.st.mu b' m).imp id fun q => dom_none kd q⟩, b.le, b.mu⟩
  cases r with
  | next => exact k g' _ μ' .none h' tk p bk .none
  | brk => exact k g' _ μ' .none h' tk p bk .none
  | cont => exact k g' _ μ' .none h' tk p bk .none
  | ret r => exact k g' _ μ' _ h' tk p bk r
end
end Mine
set_option tactic.hygienic false
open PySem PySem.W PySem.Calls PyProof.Rows
set_option Elab.async false
set_option maxRecDepth 100000
set_option linter.unusedVariables false
namespace Mine
theorem range_fits {n : Int} (h0 : 0 ≤ n) (h : n ≤ 2 ^ 24) : Builtin.Range.rangeFitsLong n = true := by
  simp only [Builtin.Range.rangeFitsLong, Bool.and_eq_true, decide_eq_true_eq]; walk_at "od"
theorem range_one {n : Nat} (h : n ≤ 2 ^ 20) : Builtin.Range.small 0 n 1 = true ∧ Builtin.Range.rangeSize 0 n 1 = (n : Int) := by
  have e : Builtin.Range.rangeSize 0 n 1 = (n : Int) := by
    unfold Builtin.Range.rangeSize
    rw [if_pos (by decide)]
    split <;> walk_at "od"
  refine ⟨?_, e⟩
  unfold Builtin.Range.small
  rw [e, if_pos (by decide), range_fits (by walk_at "od") (by walk_at "od"), range_fits (by walk_at "od") (by walk_at "od"), range_fits (by walk_at "od") (by walk_at "od"), range_fits (n := (n : Int) + (1 - 1)) (by walk_at "od") (by walk_at "od")]
  simp
theorem range_three {m : Nat} (h : m ≤ 2 ^ 20) : Builtin.Range.small 0 ((3 * m : Nat) : Int) 3 = true ∧ Builtin.Range.rangeSize 0 ((3 * m : Nat) : Int) 3 = (m : Int) := by
  have e : Builtin.Range.rangeSize 0 ((3 * m : Nat) : Int) 3 = (m : Int) := by
    unfold Builtin.Range.rangeSize
    rw [if_pos (by decide)]
    split <;> walk_at "od"
  refine ⟨?_, e⟩
  unfold Builtin.Range.small
  rw [e, if_pos (by decide), range_fits (by walk_at "od") (by walk_at "od"), range_fits (n := ((3 * m : Nat) : Int)) (by walk_at "od") (by walk_at "od"), range_fits (n := 3) (by walk_at "od") (by walk_at "od"), range_fits (n := (m : Int)) (by walk_at "od") (by walk_at "od"), range_fits (n := ((3 * m : Nat) : Int) + (3 - 1)) (by walk_at "od") (by walk_at "od")]
  simp
theorem pylong_small {a b : Int} (h : b.natAbs < 2 ^ 64) : Builtin.divisionGoesByPylong a b = false := by
  unfold Builtin.divisionGoesByPylong
  simp only [Bool.and_eq_false_iff, decide_eq_false_iff_not]
  left
  by_cases hb : b = 0
  · subst hb; simp
  · have hb' : (b == 0) = false := by simpa using hb
    have hn : b.natAbs ≠ 0 := by walk_at "od"
    have := (Nat.log2_lt hn).mpr h
    simp only [hb', Bool.false_eq_true, if_false]
    walk_at "od"
section
variable {w : World} {g : Heap} {μ : Mu} {P : Heap → AV → Mu → Prop}
theorem CX.range1 {n : Int} (h : ∀ g', Le g g' → P g' (.rng 0 n 1) μ) : CX w 0 (.type "range") [.int n] g μ P := by
  intro A s E Q vs Rm B le M r k
  obtain ⟨v, rfl, r1⟩ := r.one
  obtain ⟨t, rfl⟩ := r1.inv
  obtain ⟨g', b, hg, _⟩ := Bk.alloc (w := w) le M { cls := .type "range", data := .fields #[.int 0 s.toks, .int n t, .int 1 (s.toks + 1)] } rfl
  exact call_range_1 (k g' _ μ _ _ _ (h g' b.st.le) b (.rng hg))
theorem CX.range3 {a b c : Int} (hc : c ≠ 0) (hp : c.natAbs < 2 ^ 64) (h : ∀ g', Le g g' → P g' (.rng a b c) μ) : CX w 0 (.type "range") [.int a, .int b, .int c] g μ P := by
  intro A s E Q vs Rm B le M r k
  obtain ⟨v, u, t, rfl, r1, r2, r3⟩ := r.three
  obtain ⟨t1, rfl⟩ := r1.inv; obtain ⟨t2, rfl⟩ := r2.inv; obtain ⟨t3, rfl⟩ := r3.inv
  obtain ⟨g', bk, hg, _⟩ := Bk.alloc (w := w) le M { cls := .type "range", data := .fields #[.int a t1, .int b t2, .int c t3] } rfl
  exact call_range_3 hc (k g' _ μ _ _ _ (h g' bk.st.le) bk (.rng hg)) (.inl (pylong_small hp))
theorem bindR1 {fd : FuncData} {a : AV} {x : Str} (h : ∀ v, bindArgs fd ⟨[v], []⟩ = pure [(x, v)]) (vs : List Value) (r : RVs g [a] vs) :
    ∃ binds, bindArgs fd ⟨vs, []⟩ = pure binds ∧ binds.map (·.1) = [x] ∧ RVs g ([(x, a)].map (·.2)) (binds.map (·.2)) := by
  obtain ⟨v, rfl, h1⟩ := r.one
  exact ⟨_, h v, rfl, r⟩
theorem bindR2 {fd : FuncData} {a b : AV} {x y : Str} (h : ∀ v u, bindArgs fd ⟨[v, u], []⟩ = pure [(x, v), (y, u)]) (vs : List Value) (r : RVs g [a, b] vs) :
    ∃ binds, bindArgs fd ⟨vs, []⟩ = pure binds ∧ binds.map (·.1) = [x, y] ∧ RVs g ([(x, a), (y, b)].map (·.2)) (binds.map (·.2)) := by
  obtain ⟨v, u, rfl, h1, h2⟩ := r.two
  exact ⟨_, h v u, rfl, r⟩
noncomputable def octet (x : Int) (k : Nat) : UInt8 := (((x.fdiv 2).fdiv (256 ^ k)).fmod 256).toNat.toUInt8
noncomputable def rowLen (x : Int) : Nat := (3 + x.fmod 2 * 3).toNat
noncomputable def rowOf (x : Int) : List UInt8 := (List.range (rowLen x)).map (octet x)
theorem fmod2 (x : Int) : x.fmod 2 = 0 ∨ x.fmod 2 = 1 := by
  rw [Int.fmod_eq_emod_of_nonneg _ (by decide)]; walk_at "od"
theorem isRow_rowOf (x : Int) : IsRow (rowOf x) := by
  unfold IsRow rowOf rowLen
  rw [List.length_map, List.length_range]
  rcases fmod2 x with h | h <;> rw [h] <;> decide
theorem octet_val (x : Int) (k : Nat) : ((octet x k).toNat : Int) = ((x.fdiv 2).fdiv (256 ^ k)).fmod 256 := by
  have h : ((x.fdiv 2).fdiv (256 ^ k)).fmod 256 = ((x.fdiv 2).fdiv (256 ^ k)) % 256 := Int.fmod_eq_emod_of_nonneg _ (by decide)
  unfold octet
  rw [h]
  have h2 : 0 ≤ ((x.fdiv 2).fdiv (256 ^ k)) % 256 := Int.emod_nonneg _ (by decide)
  have h3 : ((x.fdiv 2).fdiv (256 ^ k)) % 256 < 256 := Int.emod_lt_of_pos _ (by decide)
  generalize ((x.fdiv 2).fdiv (256 ^ k)) % 256 = y at *
  have : y.toNat.toUInt8.toNat = y.toNat := by
    simp only [Nat.toUInt8, UInt8.toNat_ofNat']
    walk_at "od"
  walk_at "od"
theorem row_CX {x : Int} (hp : ∀ g', Le g g' → P g' (.bytes (rowOf x)) μ) : CX w 1 (.ref 100) [.int x] g μ P := by
  refine CX.topC (n := 0) (ρ₀ := [(Str.ofString "x", .int x)]) (by exact rfl) (by exact rfl) (bindR1 (x := Str.ofString "x") fun _ => rfl) rfl (by decide) (fun L => ⟨.inr ⟨rfl, rfl⟩, trivial⟩) (fun A L Rm => ?_)
  refine SX.cons (S1.ret (EX.call (n := 0) Rm ?_))
  walk_at "tf"
  refine LX.cons ?_
  refine EX.comp (cl := [(Str.ofString "x", L + 1)]) (ρc := [(Str.ofString "x", .int x)]) (by rfl) ⟨⟨rfl, .inl rfl, rfl, nofun⟩, trivial⟩ ⟨rfl, trivial⟩ (EX.call (n := 0) Rm ?_)
  walk_at "tf"
  refine LX.cons (EX.bin (EX.cint (EX.bin (EX.bin ?_))))
  walk_at "nc"
  refine EX.cint (OX2.mod (by decide) (EX.cint (OX2.mul (.of_right (by decide)) (OX2.add (LX.nil (CX.range1 fun g₁ l₁ => ?_))))))
  have hn : 3 + x.fmod 2 * 3 = ((rowLen x : Nat) : Int) := by
    unfold rowLen
    rcases fmod2 x with h | h <;> rw [h] <;> rfl
  have hle : rowLen x ≤ 6 := by
    unfold rowLen
    rcases fmod2 x with h | h <;> rw [h] <;> decide
  rw [hn]
  have hr := range_one (n := rowLen x) (by walk_at "od")
  refine ⟨_, Src.rng Rm.hh hr.1 hr.2, fun C => ?_⟩
  refine CompX.mapN _ (fun k => .int (octet x k).toNat) (by rfl) (fun k hk g₂ l₂ => ?_) (by simp; walk_at "od") fun g₂ ρ₂ l₂ g₃ l₃ => LX.nil ?_
  · have hk' : k < rowLen x := List.mem_range.mp hk
    have e1 : (256 : Int) ^ ((0 : Int) + (k : Nat) * 1).toNat = 256 ^ k := by congr 1; walk_at "od"
    have hlt : ((256 : Int) ^ k).natAbs < 2 ^ 64 := by
      have : k = 0 ∨ k = 1 ∨ k = 2 ∨ k = 3 ∨ k = 4 ∨ k = 5 := by walk_at "od"
      rcases this with h | h | h | h | h | h <;> subst h <;> decide
    have hne : (256 : Int) ^ k ≠ 0 := Int.pow_ne_zero (by decide)
    refine EX.bin (EX.bin (EX.bin ?_))
    walk_at "nc"
    refine EX.cint (OX2.fdiv (by decide) (pylong_small (by decide)) (EX.bin (EX.cint ?_)))
    walk_at "nm"
    refine OX2.pow (by walk_at "od") (by walk_at "od") (by decide) ?_
    rw [e1]
    refine OX2.fdiv hne (pylong_small hlt) (EX.cint (OX2.mod (by decide) ⟨?_, rfl⟩))
    rw [octet_val]
  · have e : (List.range (rowLen x)).map (fun k => AV.int (octet x k).toNat) = byts (rowOf x) := by simp [rowOf]
    rw [e]
    refine CX.bytesL (by have := (isRow_rowOf x).2; walk_at "od") ?_
    exact hp g₃ ((l₁.trans l₂).trans l₃)
end
end Mine
set_option tactic.hygienic false
open PySem PySem.W PySem.Calls PyProof.Rows PySem.SeqAt
set_option Elab.async false
set_option maxRecDepth 100000
set_option linter.unusedVariables false
namespace Mine
section
variable {w : World} {A : Around} {env : Env} {g : Heap} {ρ : Vars} {μ : Mu} {P : Heap → AV → Mu → Prop}
theorem OX2.addL {xs ys : List AV} (hz : xs.length + ys.length ≤ 2 ^ 24) (h : ∀ g', Le g g' → P g' (.list (xs ++ ys)) μ) : OX2 w A (binaryOp .Add) (.list xs) (.list ys) g μ P := by
  intro s E Q va vb B le M r1 r2 k
  obtain ⟨a, us, rfl, ⟨n1, h1⟩, ru1⟩ := r1.unlist
  obtain ⟨b, ts, rfl, ⟨n2, h2⟩, ru2⟩ := r2.unlist
  have e : us.toArray ++ ts.toArray = (us ++ ts).toArray := by simp
  have k1 := le _ _ h1
  have k2 := le _ _ h2
  refine concat_meets ⟨_, k1, rfl⟩ ⟨_, k2, rfl⟩ noFill_list_add seq_list_add PySem.F.slot_list_add PySem.F.entry_list_add (PySem.F.args_list_add_2 _ _) (list_addW a b us.toArray ts.toArray n1 n2 none none #[] #[] (by simp only [List.size_toArray, ru1.1, ru2.1]; exact hz)) ⟨k1, k2, ?_⟩
  rw [e]
  obtain ⟨g', bk, hg, _⟩ := Bk.alloc (w := w) le M { cls := .type "list", data := .seq (us ++ ts).toArray } rfl
  exact k g' _ μ _ _ s.toks (h g' bk.st.le) bk (.list' ⟨_, hg⟩ ((ru1.append ru2).mono bk.st.le))
theorem RVs.take {xs : List AV} {vs : List Value} (h : RVs g xs vs) (n : Nat) : RVs g (xs.take n) (vs.take n) :=
  ⟨by simp [h.1], fun i x v e f => by
    rw [List.getElem?_take] at e f
    split at e
    · rename_i q; rw [if_pos q] at f; exact h.2 i x v e f
    · cases e⟩
theorem RVs.drop {xs : List AV} {vs : List Value} (h : RVs g xs vs) (n : Nat) : RVs g (xs.drop n) (vs.drop n) :=
  ⟨by simp [h.1], fun i x v e f => by rw [List.getElem?_drop] at e f; exact h.2 _ x v e f⟩
theorem RVs.reverse {xs : List AV} {vs : List Value} (h : RVs g xs vs) : RVs g xs.reverse vs.reverse := by
  obtain ⟨n, h⟩ := h
  induction xs generalizing vs with
  | nil => cases vs with | nil => exact .nil | cons _ _ => simp at n
  | cons x xs ih =>
    cases vs with
    | nil => simp at n
    | cons v vs =>
      rw [List.reverse_cons, List.reverse_cons]
      exact (ih (by simpa using n) fun i a b e f => h (i + 1) a b (by simpa using e) (by simpa using f)).append (.cons (h 0 x v rfl rfl) .nil)
noncomputable def PX (w : World) (A : Around) (env : Env) (e : Option Expr) (g : Heap) (ρ : Vars) (μ : Mu) (P : Heap → Option Int → Mu → Prop) : Prop :=
  match e with
  | none => P g none μ
  | some e => EX w A env e g ρ μ fun g₁ a μ₁ => ∃ i, a = .int i ∧ P g₁ (some i) μ₁
theorem PX.then {e : Option Expr} {s : Shared} {E : Value → Shared → Prop} {Q : Value → Shared → Prop} {P' : Heap → Option Int → Mu → Prop} (h : PX w A env e g ρ μ P') (R : Rel w g env ρ μ s.heap)
    (k : ∀ g' i μ' v s', P' g' i μ' → Bk w noF μ g s.heap μ' g' s'.heap → Rel w g' env ρ μ' s'.heap → IsPart v i → (∃ h' tk, s' = { s with heap := h', toks := tk }) → Q v s') : wpAny (model PR w) A (evalPart e env) Q E s := by
  cases e with
  | none => exact wpAny_pure (k g none μ .none s h (.refl R.le R.mu) R .none ⟨s.heap, s.toks, rfl⟩)
  | some e =>
    refine EX.then h R fun g₁ a μ₁ v₁ s₁ h₁ b₁ R₁ r₁ e₁ => ?_
    obtain ⟨i, rfl, h₁⟩ := h₁
    obtain ⟨_, rfl⟩ := r₁.inv
    exact k g₁ (some i) μ₁ _ s₁ h₁ b₁ R₁ (.int ..) e₁
theorem EX.sliceL {value : Expr} {lower upper : Option Expr} {p pos : Pos} (h : EX w A env value g ρ μ fun g₁ o μ₁ => ∃ xs, o = .list xs ∧ xs.length ≤ 2 ^ 24 ∧ PX w A env lower g₁ ρ μ₁ fun g₂ lo μ₂ => PX w A env upper g₂ ρ μ₂ fun g₃ hi μ₃ =>
      ∃ ys, (∀ (vs : List Value) g, RVs g xs vs → ∃ us, (slicePick vs.toArray lo hi none) = us.toArray ∧ RVs g ys us) ∧ ∀ g₄, Le g₃ g₄ → P g₄ (.list ys) μ₃)
    (ht : ∀ o r, letTemporaryGo value o r = pure () := by intro _ _; rfl) : EX w A env (.Subscript value (.Slice lower upper none p) pos) g ρ μ P := by
  intro s E Q R k
  refine wpAny_Subscript_list_slice (h.then R fun g₁ a μ₁ v₁ s₁ h₁ b₁ R₁ r₁ e₁ => ?_) ht
  obtain ⟨h', tk, rfl⟩ := e₁
  obtain ⟨xs, rfl, hz, h₁⟩ := h₁
  refine h₁.then R₁ fun g₂ lo μ₂ v₂ s₂ h₂ b₂ R₂ r₂ e₂ => ?_
  obtain ⟨h'', tk', rfl⟩ := e₂
  refine h₂.then R₂ fun g₃ hi μ₃ v₃ s₃ h₃ b₃ R₃ r₃ e₃ => ?_
  obtain ⟨h₃', tk₃, rfl⟩ := e₃
  obtain ⟨ys, hys, hP⟩ := h₃
  have r := (r₁.mono b₂.st.le).mono b₃.st.le
  obtain ⟨l, vs, rfl, hl, ru⟩ := r.unlist
  obtain ⟨us, e, rus⟩ := hys vs g₃ ru
  refine ⟨l, vs.toArray, lo, hi, rfl, (hl.mono R₃.le).isList, by rw [List.size_toArray, ru.1]; exact hz, r₂, r₃, ?_⟩
  rw [e]
  have kp₁ := le_push h₃' { cls := .type "slice", data := .fields #[v₂, v₃, .none] }
  have b₄ : Bk w noF μ₃ g₃ h₃' μ₃ g₃ (h₃'.push { cls := .type "slice", data := .fields #[v₂, v₃, .none] }) := Stp.ext kp₁ R₃.le R₃.mu
  obtain ⟨g₄, b₅, hg, _⟩ := Bk.alloc (w := w) b₄.le b₄.mu { cls := .type "list", data := .seq us.toArray } rfl
  have := k g₄ _ μ₃ (.ref (h₃'.push { cls := .type "slice", data := .fields #[v₂, v₃, .none] }).objs.size) _ tk₃ (hP g₄ b₅.st.le) ((((b₁.trans b₂).trans b₃).trans b₄).trans b₅) (.list' ⟨_, hg⟩ (rus.mono b₅.st.le))
  rw [Heap.size_push] at this
  exact this
theorem pick_take {n : Nat} (vs : List Value) (h : n ≤ vs.length) : slicePick vs.toArray none (some (n : Int)) none = (vs.take n).toArray := by
  have := slicePick_run vs.toArray 0 n (by simpa using h) (Nat.zero_le _)
  have e : slicePick vs.toArray none (some (n : Int)) none = slicePick vs.toArray (some ((0 : Nat) : Int)) (some (n : Int)) none := by
    unfold slicePick
    have : sliceBounds none (some (n : Int)) none vs.toArray.size = sliceBounds (some ((0 : Nat) : Int)) (some (n : Int)) none vs.toArray.size := by
      simp only [sliceBounds, Option.getD_none]
      simp
      try walk_at "om"
    rw [this]
  rw [e, this]; simp
theorem pick_drop {n : Nat} (vs : List Value) (h : n ≤ vs.length) : slicePick vs.toArray (some (n : Int)) none none = (vs.drop n).toArray := by
  have := slicePick_run vs.toArray n vs.length (by simp) h
  have e : slicePick vs.toArray (some (n : Int)) none none = slicePick vs.toArray (some (n : Int)) (some (vs.length : Int)) none := by
    unfold slicePick
    have : sliceBounds (some (n : Int)) none none vs.toArray.size = sliceBounds (some (n : Int)) (some (vs.length : Int)) none vs.toArray.size := by
      simp only [sliceBounds, Option.getD_none, List.size_toArray]
      simp
      try (split <;> walk_at "om")
    rw [this]
  rw [e, this]
  congr 1
  exact List.take_of_length_le (by simp)
theorem OX2.itemNeg {value slice : Expr} {xs : List AV} {i : Int} {x : AV} (hs : SubOk value slice) (h0 : i < 0) (h1 : -(xs.length : Int) ≤ i) (hz : xs.length ≤ 2 ^ 24) (hx : xs[(i + xs.length).toNat]? = some x) (h : P g x μ) : OX2 w A (subscriptTail value slice) (.list xs) (.int i) g μ P := by
  intro s E Q va vb B le M r1 r2 k
  obtain ⟨_, rfl⟩ := r2.inv
  obtain ⟨a, us, rfl, hl, ru⟩ := r1.unlist
  obtain ⟨u, hu, rx⟩ := ru.get hx
  have hlL := (hl.mono le).isList
  have el : ((us.toArray.size : Nat) : Int) = xs.length := by rw [List.size_toArray, ru.1]
  exact subscriptTail_builtin hlL.typeIs slot_list_getitem.lookup (wpAny_getItem_list_neg hlL h0 (by rw [el]; exact h1) (by walk_at "om") (by rw [el]; simpa using hu) (k g x _ u s.heap s.toks h (.refl le M) rx)) (hs.1 _ _) (hs.2 _)
end
end Mine
set_option tactic.hygienic false
open PySem PySem.W PySem.Calls PyProof.Rows PySem.SeqAt
set_option Elab.async false
set_option maxRecDepth 100000
set_option linter.unusedVariables false
set_option linter.unusedSimpArgs false
namespace Mine
theorem slot_bytes_join : Slot "bytes" "join" "bytes.join" :=
  .of (owner := "bytes") (n := "join") (by rw [typeLookup_type, builtinLookup_eq_fast]; kernel_rfl) (by decide +kernel) (by decide +kernel) (by decide +kernel)
    (by first | exact .inl (by decide +kernel) | exact .inr (by decide +kernel)) (by rw [isSubtype_type]; kernel_rfl)
theorem type_bytes_join : typeOf (.builtin "bytes.join") = pure (.type "method_descriptor") := by show builtinType _ = _; rw [builtinType_eq_fast]; kernel_rfl
theorem entry_bytes_join : entryFor table "bytes.join" = some Builtin.«bytes.join» := entryFor_of_tree (by kernel_rfl)
theorem args_bytes_join_2 (a b : Value) : argsOk "bytes.join" ⟨[a, b], []⟩ := by
  unfold argsOk; rw [signature?_of (id := "bytes.join") (n := ['n', 'i', 'o', 'j']) (o := ['s', 'e', 't', 'y', 'b']) (by kernel_rfl) FB.owner_bytes]; kernel_rfl
section
open Builtin
variable {b : Array UInt8} {t : Tok}
theorem take_eq {id : String} : Bytes.takeBuffer? id (.bytes b t) 0 = pure (some (b, none)) := by
  unfold Bytes.takeBuffer?
  rw [KBy.special_eq KBy.look_buffer, KBy.own_buffer]
  have e : ((0 : Int) == Bytes.fullReadOnly) = false := by decide +kernel
  rw [e]
  show (Bytes.buffer? id (.bytes b t) false >>= fun r => pure (r.map (·, none))) = _
  rw [KBy.buffer_eq]
  rfl
theorem takeQ_eq {id : String} : Bytes.takeBufferQuiet? id (.bytes b t) 0 = pure (some (b, none)) := by
  unfold Bytes.takeBufferQuiet?
  rw [take_eq]
  rfl
end
noncomputable def BytesAre (us : List Value) (xs : List (List UInt8)) : Prop := us.length = xs.length ∧ ∀ (i : Nat) (x : List UInt8) (v : Value), xs[i]? = some x → us[i]? = some v → ∃ t, v = .bytes x.toArray t
theorem joined_eq : ∀ (parts : List (Array UInt8)) (out : Array UInt8) (k : Nat), ((parts.zipIdx k).foldl (fun out (x : Array UInt8 × Nat) => (if x.2 > 0 then out ++ #[] else out) ++ x.1) out) = out ++ ((parts.map (·.toList)).flatten).toArray
  | [], out, k => by simp
  | p :: r, out, k => by
    rw [List.zipIdx_cons, List.foldl_cons, joined_eq r]
    apply Array.toList_inj.mp
    simp
section
variable {M : Model} {A : Around} {E : Value → Shared → Prop} {s : Shared}
theorem joinLetGo_go : ∀ (taken : List (Value × Option Value)) (keep : List Value) {Q : Unit → Shared → Prop}, (∀ p ∈ taken, p.2 = none) → Q () s → wpAny M A (Builtin.Bytes.joinLetGo taken keep) Q E s
  | [], keep, Q, _, h => wpAny_pure h
  | (x, w) :: rest, keep, Q, hn, h => by
    have hw : w = none := hn (x, w) (.head _)
    subst hw
    have ih : wpAny M A (Builtin.Bytes.joinLetGo rest keep) Q E s := joinLetGo_go rest keep (fun p hp => hn p (.tail _ hp)) h
    unfold Builtin.Bytes.joinLetGo
    simp only [Option.toList_none, PySem.letGo, List.nil_append]
    exact wpAny_bind (wpAny_bind (wpAny_holding (wpAny_point (wpAny_pure ih))))
end
section
variable {M : Model} {A : Around} {E : Value → Shared → Prop}
theorem wpAny_forRange {β : Type} {n : Nat} {f : Nat → β → Sem (ForInStep β)} {Q : β → Shared → Prop} (I : Nat → β → Shared → Prop)
    (hstep : ∀ i c s, i < n → I i c s → wpAny M A (f i c) (fun r s' => match r with | .done c' => Q c' s' | .yield c' => I (i + 1) c' s') E s) (hend : ∀ c s, I n c s → Q c s) {c : β} {s : Shared} (h : I 0 c s) : wpAny M A (forIn [:n] c f) Q E s := by
  rw [Std.Legacy.Range.forIn_eq_forIn_range']
  have hsz : ([:n] : Std.Legacy.Range).size = n := by simp [Std.Legacy.Range.size]
  show wpAny M A (forIn (List.range' 0 ([:n] : Std.Legacy.Range).size 1) c f) Q E s
  rw [hsz]
  have key : ∀ (k i : Nat) (c : β) (s : Shared), i + k = n → I i c s → wpAny M A (forIn (List.range' i k 1) c f) Q E s := by
    intro k
    induction k with
    | zero =>
      intro i c s hi hI
      have : i = n := by walk_at "om"
      subst this
      rw [List.range'_zero, List.forIn_nil]
      exact wpAny_pure (hend c s hI)
    | succ k ih =>
      intro i c s hi hI
      rw [List.range'_succ, List.forIn_cons]
      refine wpAny_bind (wpAny_mono (hstep i c s (by walk_at "om") hI) (fun r s' h' => ?_) fun _ _ e => e)
      cases r with
      | done c' => exact wpAny_pure h'
      | yield c' => exact ih (i + 1) c' s' (by walk_at "om") h'
  exact key n 0 c s (by walk_at "om") h
end
theorem fold_size : ∀ (l : List (List UInt8)) (k : Nat), (l.map List.toArray).foldl (fun a (b : Array UInt8) => a + b.size) k = k + l.flatten.length
  | [], k => by simp
  | x :: l, k => by rw [List.map_cons, List.foldl_cons, fold_size l]; simp; walk_at "om"
theorem meets_bytes_join (a : Addr) (us : List Value) (xs : List (List UInt8)) (n : Nat) (t : Tok) (hx : BytesAre us xs) (hz : xs.flatten.length ≤ 2 ^ 24) :
    Meets (Builtin.«bytes.join» ⟨[.bytes #[] t, .ref a], []⟩) (fun _ R s => s.heap.get? a = some { cls := .type "list", dict := none, data := .seq us.toArray n, slots := #[] } ∧ ∀ t' k, R (.ok (.ret (.bytes xs.flatten.toArray t'))) { s with toks := k }) := by
  refine .of_wp fun prog w A R s hS => ?_
  obtain ⟨hl, h⟩ := hS
  show wpAny _ _ (Builtin.Bytes.joinM .bytes ⟨[.bytes #[] t, .ref a], []⟩) _ _ s
  unfold Builtin.Bytes.joinM
  refine wpAny_bind (wpAny_of_eq (a := (Value.bytes #[] t, Value.ref a)) rfl ?_)
  dsimp only
  refine wpAny_bind ?_
  unfold Builtin.Bytes.joinItems
  refine wpAny_bind (wpAny_typeOf (T := "list") ⟨_, hl, rfl⟩ ?_)
  rw [if_pos (by decide)]
  refine wpAny_pure ?_
  refine wpAny_bind (wpAny_seqItems hl rfl ?_)
  dsimp only
  rw [if_pos (by decide)]
  match us, xs, hx with
  | [u], [x], hx =>
    obtain ⟨t', rfl⟩ := hx.2 0 x u rfl rfl
    refine wpAny_bind (wpAny_typeOf (T := "bytes") (PySem.W.typeIs_bytes s _ t') ?_)
    rw [if_pos (by decide)]
    have := h t' s.toks
    simp only [List.flatten_cons, List.flatten_nil, List.append_nil] at this
    exact wpAny_bind (wpAny_rule (wpAny_pure ⟨_, rfl, this⟩))
  | [], [], hx =>
    refine wpAny_bind (wpAny_forRange (fun i c s' => s' = s ∧ c.1 = (([] : List (List UInt8)).map List.toArray).toArray ∧ ∀ p ∈ c.2, p.1.onHeap = false ∧ p.2 = none) (fun i c s' hi => absurd hi (by simp)) ?_ ⟨rfl, rfl, fun p hp => nomatch hp⟩)
    · rintro ⟨parts, taken⟩ s' ⟨rfl, h1, ht⟩
      dsimp only at h1 ht ⊢
      subst h1
      refine wpAny_bind (wpAny_of_eq (a := #[]) rfl ?_)
      have hsz : (#[] : Array UInt8).size * ((([] : List (List UInt8)).map List.toArray).toArray.size - 1) = 0 := by simp
      have hlen : Builtin.Bytes.tooLong (Array.foldl (fun x1 (x2 : Array UInt8) => x1 + x2.size) ((#[] : Array UInt8).size * ((([] : List (List UInt8)).map List.toArray).toArray.size - 1)) (([] : List (List UInt8)).map List.toArray).toArray) = false := by
        rw [hsz, List.foldl_toArray, fold_size]
        exact KBy.tooLong_not (by walk_at "om")
      rw [if_neg (by rw [hlen]; exact Bool.false_ne_true)]
      have hj : Builtin.Bytes.joined #[] (([] : List (List UInt8)).map List.toArray).toArray.toList = ([] : List (List UInt8)).flatten.toArray := by
        unfold Builtin.Bytes.joined
        rw [joined_eq]
        simp [Function.comp_def]
      rw [hj]
      refine wpAny_bind (wpAny_mkBytes ?_ (by rw [sizeLine_eq, List.size_toArray]; walk_at "om"))
      refine wpAny_bind (wpAny_holding (wpAny_point ?_))
      exact wpAny_bind (joinLetGo_go _ _ (fun p hp => (ht p hp).2) (wpAny_pure ⟨_, rfl, h _ _⟩))
  | u :: v :: r, xs, hx =>
    have hlen0 : (u :: v :: r).toArray.size = xs.length := by rw [List.size_toArray]; exact hx.1
    refine wpAny_bind (wpAny_forRange (fun i c s' => s' = s ∧ c.1 = ((xs.take i).map List.toArray).toArray ∧ ∀ p ∈ c.2, p.1.onHeap = false ∧ p.2 = none) ?_ ?_ ⟨rfl, rfl, fun p hp => nomatch hp⟩)
    · rintro i ⟨parts, taken⟩ s' hi ⟨rfl, h1, ht⟩
      dsimp only at h1 ht ⊢
      subst h1
      refine wpAny_bind (wpAny_seqItems hl rfl ?_)
      dsimp only
      have hany : (taken.any fun x => x.1.onHeap) = false := by
        rw [List.any_eq_false]; intro p hp; rw [(ht p hp).1]; exact Bool.false_ne_true
      rw [if_neg (by rw [hany]; decide)]
      have hi' : i < xs.length := hlen0 ▸ hi
      have hiu : i < (u :: v :: r).length := by rw [hx.1]; exact hi'
      obtain ⟨t', hv⟩ := hx.2 i xs[i] (u :: v :: r)[i] (List.getElem?_eq_getElem hi') (List.getElem?_eq_getElem hiu)
      have hget : (u :: v :: r).toArray.getD i Value.none = .bytes xs[i].toArray t' := by
        rw [← hv]; simp only [Array.getD, List.size_toArray]; rw [dif_pos hiu]; rfl
      rw [hget]
      refine wpAny_bind (wpAny_holding (wpAny_of_eq takeQ_eq ?_))
      refine wpAny_bind (wpAny_seqItems hl rfl ?_)
      dsimp only
      rw [if_neg (by simp)]
      refine wpAny_pure ⟨rfl, ?_, fun p hp => ?_⟩
      · have e : xs.take (i + 1) = xs.take i ++ [xs[i]] := by rw [List.take_add_one, List.getElem?_eq_getElem hi']; rfl
        rw [e, List.map_append]
        simp only [List.map_cons, List.map_nil, List.push_toArray]
      · rcases List.mem_append.mp hp with q | q
        · exact ht p q
        · rw [List.mem_singleton.mp q]; exact ⟨rfl, rfl⟩
    · rintro ⟨parts, taken⟩ s' ⟨rfl, h1, ht⟩
      dsimp only at h1 ht ⊢
      rw [List.take_of_length_le (by rw [hlen0]; exact Nat.le_refl _)] at h1
      subst h1
      refine wpAny_bind (wpAny_of_eq (a := #[]) rfl ?_)
      have hsz : (#[] : Array UInt8).size * ((xs.map List.toArray).toArray.size - 1) = 0 := by simp
      have hlen : Builtin.Bytes.tooLong (Array.foldl (fun x1 (x2 : Array UInt8) => x1 + x2.size) ((#[] : Array UInt8).size * ((xs.map List.toArray).toArray.size - 1)) (xs.map List.toArray).toArray) = false := by
        rw [hsz, List.foldl_toArray, fold_size]
        exact KBy.tooLong_not (by walk_at "om")
      rw [if_neg (by rw [hlen]; exact Bool.false_ne_true)]
      have hj : Builtin.Bytes.joined #[] (xs.map List.toArray).toArray.toList = xs.flatten.toArray := by
        unfold Builtin.Bytes.joined
        rw [joined_eq]
        simp [Function.comp_def]
      rw [hj]
      refine wpAny_bind (wpAny_mkBytes ?_ (by rw [sizeLine_eq, List.size_toArray]; walk_at "om"))
      refine wpAny_bind (wpAny_holding (wpAny_point ?_))
      exact wpAny_bind (joinLetGo_go _ _ (fun p hp => (ht p hp).2) (wpAny_pure ⟨_, rfl, h _ _⟩))
section
variable {w : World} {A : Around} {g : Heap} {μ : Mu} {P : Heap → AV → Mu → Prop}
theorem bytesAre {g : Heap} {xs : List (List UInt8)} {us : List Value} (r : RVs g (xs.map .bytes) us) : BytesAre us xs := by
  refine ⟨by rw [r.1, List.length_map], fun i x v hx hv => ?_⟩
  have := r.2 i (.bytes x) v (by simp [hx]) hv
  cases this with | bytes _ t => exact ⟨t, rfl⟩
theorem GetM.join {x : List UInt8} : GetM w (.bytes x) "join" "bytes.join" g μ := fun A s E Q pl va le M r q => by
  obtain ⟨t, rfl⟩ := r.inv
  exact KBd.method_of (.bytes x.toArray t) (PySem.W.typeIs_bytes _ _ _) slot_bytes_join type_bytes_join KBd.noRef q
theorem CX.join {xs : List (List UInt8)} (hz : xs.flatten.length ≤ 2 ^ 24) (h : P g (.bytes xs.flatten) μ) : CX w 0 (.builtin "bytes.join") [.bytes [], .list (xs.map .bytes)] g μ P := by
  intro A s E Q vs Rm B le M r k
  obtain ⟨v, u, rfl, r1, r2⟩ := r.two
  obtain ⟨t, rfl⟩ := r1.inv
  obtain ⟨a, us, rfl, ⟨n, hl⟩, ru⟩ := r2.unlist
  refine call_meets slot_bytes_join (PySem.W.typeIs_bytes _ _ _) entry_bytes_join (args_bytes_join_2 _ _) (meets_bytes_join a us xs n t (bytesAre ru) hz) ⟨le _ _ hl, fun t' tk => ?_⟩
  exact k g _ μ _ s.heap tk h (.refl le M) (.bytes ..)
end
end Mine
set_option tactic.hygienic false
open PySem PySem.W PySem.Calls PyProof.Rows PySem.SeqAt
set_option Elab.async false
set_option maxRecDepth 100000
set_option linter.unusedVariables false
set_option linter.unusedSimpArgs false
namespace Mine
section
variable {w : World} {A : Around} {env : Env} {g : Heap} {ρ : Vars} {μ : Mu} {P : Heap → AV → Mu → Prop}
theorem Bk.newObj {h h' : Heap} {a : Addr} {o : Obj} (le : Le g h) (M : MuRel g μ h) (kp : Le h h') (ha : h.get? a = none) (ho : h'.get? a = some o) : ∃ g', Bk w noF μ g h μ g' h' ∧ g'.get? a = some o := by
  obtain ⟨g', b, l, hg, _⟩ := (Stp.ext (w := w) (Fx := noF) kp le M).freeze (· == a) fun b hb => by
    have : b = a := by simpa using hb
    subst this
    refine ⟨ha, ?_⟩
    intro m
    obtain ⟨o₂, m2⟩ := M.there b m
    rw [ha] at m2; cases m2
  exact ⟨g', b, hg a o (by simp) ho⟩
theorem fresh_ge {h : Heap} {b : Addr} (hb : h.objs.size ≤ b) : h.get? b = none := by
  cases q : h.get? b with
  | none => rfl
  | some o => exact absurd (Nat.lt_of_lt_of_le (Heap.lt_size q) hb) (Nat.lt_irrefl _)
theorem EX.revL {value st : Expr} {p pos : Pos} (h : EX w A env value g ρ μ fun g₁ o μ₁ => ∃ xs, o = .list xs ∧ xs.length ≤ 2 ^ 24 ∧ EX w A env st g₁ ρ μ₁ fun g₂ a μ₂ => a = .int (-1) ∧ ∀ g₃, Le g₂ g₃ → P g₃ (.list xs.reverse) μ₂)
    (ht : ∀ o r, letTemporaryGo value o r = pure () := by intro _ _; rfl) : EX w A env (.Subscript value (.Slice none none (some st) p) pos) g ρ μ P := by
  intro s E Q R k
  refine wpAny_Subscript_Slice_step (T := "list") list_getitem_lookup (h.then R fun g₁ a μ₁ v₁ s₁ h₁ b₁ R₁ r₁ e₁ => wpAny_Slice (evalPart_none_step (evalPart_none_step (evalPart_some_step ?_)))) ht
  obtain ⟨h', tk, rfl⟩ := e₁
  obtain ⟨xs, rfl, hz, h₁⟩ := h₁
  refine h₁.then R₁ fun g₂ a μ₂ v₂ s₂ h₂ b₂ R₂ r₂ e₂ => ?_
  obtain ⟨h'', tk', rfl⟩ := e₂
  obtain ⟨rfl, hP⟩ := h₂
  obtain ⟨t, rfl⟩ := r₂.inv
  obtain ⟨l, vs, rfl, hl, ru⟩ := (r₁.mono b₂.st.le).unlist
  have hls := (hl.mono R₂.le).isList
  have kp₁ := le_push h'' { cls := .type "slice", data := .fields #[.none, .none, .int (-1) t] }
  have b₄ : Bk w noF μ₂ g₂ h'' μ₂ g₂ (h''.push { cls := .type "slice", data := .fields #[.none, .none, .int (-1) t] }) := Stp.ext kp₁ R₂.le R₂.mu
  refine ⟨(hls.push _).typeIs, wpAny_getItem_list_slice (hls.push _) (Heap.IsSliceOf.new ..) .none .none (.int (-1) t) (by decide) ?_ (by rw [List.size_toArray, ru.1]; exact hz)⟩
  rw [krv_pick]
  obtain ⟨g₅, b₅, hg, _⟩ := Bk.alloc (w := w) b₄.le b₄.mu { cls := .type "list", data := .seq vs.reverse.toArray } rfl
  exact k g₅ _ μ₂ _ _ tk' (hP g₅ b₅.st.le) (((b₁.trans b₂).trans b₄).trans b₅) (.list' ⟨_, hg⟩ (ru.reverse.mono b₅.st.le))
theorem RcAt.bytes {s : Shared} (a b : Array UInt8) (t u : Tok) : RcAt A s (.bytes a t) (.bytes b u) (a.toList == b.toList) := fun prog w E Q h =>
  richCompare_gives (op := .Eq) (PySem.W.typeIs_bytes s a t) (PySem.W.typeIs_bytes s b u) FB.slot_bytes_eq FB.entry_bytes_eq (FB.args_bytes_eq_2 _ _) (gives_bytes_eq a b t u) (fun e => nomatch e) h
theorem EqAt.bytes {s : Shared} (a b : Array UInt8) (t u : Tok) : EqAt A s (.bytes a t) (.bytes b u) (a.toList == b.toList) := fun prog w E Q h => by
  unfold eqBool
  refine wpAny_holding ?_
  refine wpAny_ite_split (fun hab => ?_) (fun _ => ?_)
  · have e : a = b := by have := eq_of_beq hab; injection this
    subst e
    exact wpAny_bind (wpAny_rule (wpAny_pure (by simpa using h)))
  · exact wpAny_bind (Mine.RcAt.bytes a b t u prog w E _ (wpAny_truthy_bool h))
theorem all_eq {ι : Type} [BEq ι] [LawfulBEq ι] {xs ys : List ι} (h : xs.length = ys.length) : (List.range xs.length).all (fun j => xs[j]? == ys[j]?) = (xs == ys) := by
  rw [Bool.eq_iff_iff, List.all_eq_true, beq_iff_eq]
  constructor
  · intro q
    refine List.ext_getElem? fun i => ?_
    by_cases hi : i < xs.length
    · exact eq_of_beq (q i (List.mem_range.mpr hi))
    · rw [List.getElem?_eq_none (by walk_at "om"), List.getElem?_eq_none (by walk_at "om")]
  · rintro rfl i _
    exact beq_self_eq_true _
section
variable {ι : Type} [BEq ι] [LawfulBEq ι] {f : ι → AV} {xs ys : List ι}
noncomputable def EqOk (f : ι → AV) : Prop := ∀ (A : Around) (s : Shared) g (a b : ι) va vb, RV g (f a) va → RV g (f b) vb → EqAt A s va vb (a == b)
theorem eq_items {us ts : List Value} (he : EqOk f) (r1 : RVs g (xs.map f) us) (r2 : RVs g (ys.map f) ts) (s : Shared) (A : Around) :
    ∀ j (h1 : j < us.toArray.size) (h2 : j < ts.toArray.size), EqAt A s us.toArray[j] ts.toArray[j] (xs[j]? == ys[j]?) := fun j h1 h2 => by
  have e1 : us.length = xs.length := by rw [r1.1, List.length_map]
  have e2 : ts.length = ys.length := by rw [r2.1, List.length_map]
  have h1' : j < xs.length := by simpa [e1] using h1
  have h2' : j < ys.length := by simpa [e2] using h2
  have := he A s g xs[j] ys[j] us.toArray[j] ts.toArray[j] (r1.2 j _ _ (by simp [h1']) (by simp [e1, h1'])) (r2.2 j _ _ (by simp [h2']) (by simp [e2, h2']))
  rw [List.getElem?_eq_getElem h1', List.getElem?_eq_getElem h2']
  exact this
theorem OX2.eqLL (he : EqOk f) (hu : A.units < cLine) (h : P g (.bool (xs == ys)) μ) : OX2 w A (compareOp .Eq) (.list (xs.map f)) (.list (ys.map f)) g μ P := by
  intro s E Q va vb B le M r1 r2 k
  obtain ⟨a, us, rfl, hl1, ru1⟩ := r1.unlist
  obtain ⟨b, ts, rfl, hl2, ru2⟩ := r2.unlist
  have e1 : us.length = xs.length := by rw [ru1.1, List.length_map]
  have e2 : ts.length = ys.length := by rw [ru2.1, List.length_map]
  have hk := k g _ μ (.bool (xs == ys)) s.heap s.toks h (.refl le M) (.bool _)
  by_cases hn : xs.length = ys.length
  · refine eq_listAt (hl1.mono le).isList (hl2.mono le).isList (by simp [e1, e2, hn]) hu (eq_items he ru1 ru2 s _) ?_
    rw [List.size_toArray, e1, all_eq hn]
    exact hk
  · have e : (xs == ys) = false := by
      rw [beq_eq_false_iff_ne]; rintro rfl; exact hn rfl
    rw [e] at hk
    exact eq_list_lengthsAt (hl1.mono le).isList (hl2.mono le).isList (by simp [e1, e2, hn]) hu hk
theorem OX2.neLL (he : EqOk f) (hu : A.units < cLine) (h : P g (.bool (xs != ys)) μ) : OX2 w A (compareOp .NotEq) (.list (xs.map f)) (.list (ys.map f)) g μ P := by
  intro s E Q va vb B le M r1 r2 k
  obtain ⟨a, us, rfl, hl1, ru1⟩ := r1.unlist
  obtain ⟨b, ts, rfl, hl2, ru2⟩ := r2.unlist
  have e1 : us.length = xs.length := by rw [ru1.1, List.length_map]
  have e2 : ts.length = ys.length := by rw [ru2.1, List.length_map]
  have hk := k g _ μ (.bool (xs != ys)) s.heap s.toks h (.refl le M) (.bool _)
  by_cases hn : xs.length = ys.length
  · refine RcNeAt.lists (hl1.mono le).isList (hl2.mono le).isList (by simp [e1, e2, hn]) hu (eq_items he ru1 ru2 s _) _ _ _ _ ?_
    rw [List.size_toArray, e1, all_eq hn]
    exact hk
  · have e : (xs != ys) = true := by
      rw [bne, Bool.not_eq_true', beq_eq_false_iff_ne]; rintro rfl; exact hn rfl
    rw [e] at hk
    exact RcNeAt.lists_lengths (hl1.mono le).isList (hl2.mono le).isList (by simp [e1, e2, hn]) hu _ _ _ _ hk
end
theorem eqOk_int : EqOk AV.int := fun A s g a b va vb r1 r2 => by
  obtain ⟨_, rfl⟩ := r1.inv; obtain ⟨_, rfl⟩ := r2.inv; exact EqAt.int_int _ _ _ _
theorem eqOk_bytes : EqOk AV.bytes := fun A s g a b va vb r1 r2 => by
  obtain ⟨_, rfl⟩ := r1.inv; obtain ⟨_, rfl⟩ := r2.inv; exact EqAt.bytes _ _ _ _
theorem OX2.eqNil {xs : List AV} (hu : A.units < cLine) (h : P g (.bool xs.isEmpty) μ) : OX2 w A (compareOp .Eq) (.list xs) (.list []) g μ P := by
  intro s E Q va vb B le M r1 r2 k
  obtain ⟨a, us, rfl, hl1, ru1⟩ := r1.unlist
  obtain ⟨b, ts, rfl, hl2, ru2⟩ := r2.unlist
  obtain rfl := ru2.unnil
  have hk := k g _ μ (.bool xs.isEmpty) s.heap s.toks h (.refl le M) (.bool _)
  cases xs with
  | nil =>
    obtain rfl := ru1.unnil
    exact eq_listAt (e := fun _ => true) (hl1.mono le).isList (hl2.mono le).isList rfl hu (fun j h1 => absurd h1 (by simp)) hk
  | cons x xs => exact eq_list_lengthsAt (hl1.mono le).isList (hl2.mono le).isList (by simp [ru1.1]) hu hk
theorem OX2.neNilM {ad : Addr} {xs : List AV} (hu : A.units < cLine) (h : P g (.bool (!xs.isEmpty)) (some (.lst ad (xs)))) : OX2 w A (compareOp .NotEq) (.mlist ad) (.list []) g (some (.lst ad (xs))) P := by
  intro s E Q va vb B le M r1 r2 k
  obtain ⟨_, rfl⟩ := r1.inv
  obtain ⟨_, us, hl1, ru1⟩ := M.lst
  obtain ⟨b, ts, rfl, hl2, ru2⟩ := r2.unlist
  obtain rfl := ru2.unnil
  have hk := k g _ _ (.bool (!xs.isEmpty)) s.heap s.toks h (.refl le M) (.bool _)
  cases xs with
  | nil =>
    obtain rfl := ru1.unnil
    exact RcNeAt.lists (e := fun _ => true) hl1.isList (hl2.mono le).isList rfl hu (fun j h1 => absurd h1 (by simp)) _ _ _ _ hk
  | cons x xs => exact RcNeAt.lists_lengths hl1.isList (hl2.mono le).isList (by simp [ru1.1]) hu _ _ _ _ hk
end
end Mine
set_option tactic.hygienic false
open PySem PySem.W PySem.Calls PyProof.Rows PySem.SeqAt
set_option Elab.async false
set_option maxRecDepth 100000
set_option linter.unusedVariables false
set_option linter.unusedSimpArgs false
namespace Mine
theorem ord_cons (x y : UInt8) (a b : List UInt8) : ord (x :: a) (y :: b) = if x < y then .lt else if x > y then .gt else ord a b := rfl
theorem ord_eq : ∀ {a b : List UInt8}, ord a b = .eq → a = b
  | [], [], _ => rfl
  | [], _ :: _, h => nomatch h
  | _ :: _, [], h => nomatch h
  | x :: a, y :: b, h => by
    rw [ord_cons] at h
    by_cases h1 : x < y
    · rw [if_pos h1] at h; cases h
    · by_cases h2 : x > y
      · rw [if_neg h1, if_pos h2] at h; cases h
      · rw [if_neg h1, if_neg h2] at h
        have : x = y := UInt8.le_antisymm (UInt8.not_lt.mp h2) (UInt8.not_lt.mp h1)
        rw [this, ord_eq h]
theorem ord_refl : ∀ (a : List UInt8), ord a a = .eq
  | [] => rfl
  | x :: a => by rw [ord_cons, if_neg (UInt8.lt_irrefl _), if_neg (UInt8.lt_irrefl _)]; exact ord_refl a
theorem ord_swap : ∀ (a b : List UInt8), ord b a = (ord a b).swap
  | [], [] => rfl
  | [], _ :: _ => rfl
  | _ :: _, [] => rfl
  | x :: a, y :: b => by
    rw [ord_cons, ord_cons]
    by_cases h1 : x < y
    · have h2 : ¬ y < x := fun h => UInt8.lt_irrefl _ (UInt8.lt_trans h1 h)
      rw [if_neg h2, if_pos h1, if_pos h1]; rfl
    · by_cases h2 : y < x
      · rw [if_pos h2, if_neg h1, if_pos h2]; rfl
      · rw [if_neg h2, if_neg h1, if_neg h1, if_neg h2]; exact ord_swap a b
theorem ord_lt_trans : ∀ {a b c : List UInt8}, ord a b = .lt → ord b c = .lt → ord a c = .lt
  | [], [], _, h, _ => nomatch h
  | _ :: _, [], _, h, _ => nomatch h
  | _, _ :: _, [], _, h => nomatch h
  | [], _ :: _, _ :: _, _, _ => rfl
  | x :: a, y :: b, z :: c, h, k => by
    rw [ord_cons] at h k ⊢
    by_cases h1 : x < y
    · by_cases k1 : y < z
      · rw [if_pos (UInt8.lt_trans h1 k1)]
      · by_cases k2 : y > z
        · rw [if_neg k1, if_pos k2] at k; cases k
        · have : y = z := UInt8.le_antisymm (UInt8.not_lt.mp k2) (UInt8.not_lt.mp k1)
          rw [← this, if_pos h1]
    · by_cases h2 : x > y
      · rw [if_neg h1, if_pos h2] at h; cases h
      · have e : x = y := UInt8.le_antisymm (UInt8.not_lt.mp h2) (UInt8.not_lt.mp h1)
        subst e
        rw [if_neg h1, if_neg h2] at h
        by_cases k1 : x < z
        · rw [if_pos k1]
        · by_cases k2 : x > z
          · rw [if_neg k1, if_pos k2] at k; cases k
          · rw [if_neg k1, if_neg k2] at k ⊢
            exact ord_lt_trans h k
noncomputable def ole (a b : List UInt8) : Prop := ord a b ≠ .gt
theorem ole_refl (a : List UInt8) : ole a a := by unfold ole; rw [ord_refl]; decide
theorem ole_of_lt {a b : List UInt8} (h : ord a b = .lt) : ole a b := by unfold ole; rw [h]; decide
theorem ole_of_not_lt {a b : List UInt8} (h : ord b a ≠ .lt) : ole a b := by
  unfold ole; intro q; rw [ord_swap a b, q] at h; exact h rfl
theorem not_lt_of_ole {a b : List UInt8} (h : ole a b) : ord b a ≠ .lt := by
  unfold ole at h; intro q; rw [ord_swap a b] at q
  cases e : ord a b <;> rw [e] at q h
  · cases q
  · cases q
  · exact h rfl
theorem ole_trans {a b c : List UInt8} (h : ole a b) (k : ole b c) : ole a c := by
  cases e1 : ord a b with
  | gt => exact absurd e1 h
  | eq => rw [ord_eq e1]; exact k
  | lt =>
    cases e2 : ord b c with
    | gt => exact absurd e2 k
    | eq => rw [← ord_eq e2]; exact h
    | lt => exact ole_of_lt (ord_lt_trans e1 e2)
theorem ole_antisymm {a b : List UInt8} (h : ole a b) (k : ole b a) : a = b := by
  cases e : ord a b with
  | gt => exact absurd e h
  | eq => exact ord_eq e
  | lt => exact absurd (by rw [ord_swap a b, e]; rfl) k
theorem ole_total (a b : List UInt8) : ole a b ∨ ole b a := by
  by_cases h : ole a b
  · exact .inl h
  · refine .inr fun q => h ?_
    have := ord_swap b a
    rw [q] at this
    unfold ole; rw [this]; decide
theorem argBest_least (num : Nat → List UInt8) : ∀ k, argBest (fun i j => ord (num i) (num j) == .lt) k ≤ k ∧ ∀ j, j ≤ k → ole (num (argBest (fun i j => ord (num i) (num j) == .lt) k)) (num j)
  | 0 => ⟨Nat.le_refl _, fun j hj => by have : j = 0 := by walk_at "om"
                                        subst this; exact ole_refl _⟩
  | k + 1 => by
    obtain ⟨h1, h2⟩ := argBest_least num k
    simp only [argBest]
    by_cases hb : (ord (num (k + 1)) (num (argBest (fun i j => ord (num i) (num j) == .lt) k)) == .lt) = true
    · rw [if_pos hb]
      refine ⟨Nat.le_refl _, fun j hj => ?_⟩
      by_cases e : j = k + 1
      · subst e; exact ole_refl _
      · exact ole_trans (ole_of_lt (eq_of_beq hb)) (h2 j (by walk_at "om"))
    · rw [if_neg hb]
      refine ⟨by walk_at "om", fun j hj => ?_⟩
      by_cases e : j = k + 1
      · subst e; exact ole_of_not_lt fun q => hb (by rw [q]; rfl)
      · exact h2 j (by walk_at "om")
theorem argBest_most (num : Nat → List UInt8) : ∀ k, argBest (fun i j => ord (num i) (num j) == .gt) k ≤ k ∧ ∀ j, j ≤ k → ole (num j) (num (argBest (fun i j => ord (num i) (num j) == .gt) k))
  | 0 => ⟨Nat.le_refl _, fun j hj => by have : j = 0 := by walk_at "om"
                                        subst this; exact ole_refl _⟩
  | k + 1 => by
    obtain ⟨h1, h2⟩ := argBest_most num k
    simp only [argBest]
    by_cases hb : (ord (num (k + 1)) (num (argBest (fun i j => ord (num i) (num j) == .gt) k)) == .gt) = true
    · rw [if_pos hb]
      refine ⟨Nat.le_refl _, fun j hj => ?_⟩
      by_cases e : j = k + 1
      · subst e; exact ole_refl _
      · refine ole_trans (h2 j (by walk_at "om")) (ole_of_lt ?_)
        rw [ord_swap (num (k + 1)), eq_of_beq hb]; rfl
    · rw [if_neg hb]
      refine ⟨by walk_at "om", fun j hj => ?_⟩
      by_cases e : j = k + 1
      · subst e; exact fun q => hb (by rw [q]; rfl)
      · exact h2 j (by walk_at "om")
section
variable {w : World} {A : Around} {env : Env} {g : Heap} {ρ : Vars} {μ : Mu} {P : Heap → AV → Mu → Prop}
theorem pushed_kept {s : Shared} {l : Addr} {h' : Heap} (hk : ∀ b o, b ∉ [s.heap.objs.size] → (s.heap.push { cls := .type "list_iterator", data := .fields #[.ref l, .int 0 0] }).get? b = some o → h'.get? b = some o) : Le s.heap h' := old_kept hk
theorem CX.minB {xs : List (List UInt8)} (hne : 0 < xs.length) (h : ∀ m, m ∈ xs → (∀ x ∈ xs, ole m x) → P g (.bytes m) μ) : CX w 1 (.builtin "min") [.list (xs.map .bytes)] g μ P := by
  intro A s E Q vs Rm B le M r k
  obtain ⟨v, rfl, r1⟩ := r.one
  obtain ⟨a, us, rfl, hl, ru⟩ := r1.unlist
  have hlen : us.length = xs.length := by rw [ru.1, List.length_map]
  have hls := (hl.mono le).isList
  have hlt : a < s.heap.objs.size := by obtain ⟨_, e⟩ := hl; exact Heap.lt_size (le _ _ e)
  refine call_min_walk (wpAny_pyIter_list hls ?_)
  refine ⟨_, _, _, _, _, _, fun i j => ord (xs.getD i []) (xs.getD j []) == .lt, rfl, Walks.list (A := A.in1) Rm.hh s.heap.objs.size a (Nat.ne_of_lt hlt) us.toArray, ⟨⟨_, Heap.get?_push_size _ rfl, rfl, rfl⟩, hls.push _⟩, fun b hb => ?_, by simpa [hlen] using hne, fun i j vi vj s' Q' E' hi hj hQ => ?_, fun v h' tk hP hk => ?_⟩
  · show b < (s.heap.push _).objs.size
    rw [Heap.size_push]
    rcases List.mem_cons.mp hb with rfl | hb
    · exact Nat.lt_succ_self _
    · rw [List.mem_singleton.mp hb]; exact Nat.lt_succ_of_lt hlt
  · have hi' : us[i]? = some vi := by simpa using hi
    have hj' : us[j]? = some vj := by simpa using hj
    have hil : i < xs.length := by rw [← hlen]; exact (List.getElem?_eq_some_iff.mp hi').1
    have hjl : j < xs.length := by rw [← hlen]; exact (List.getElem?_eq_some_iff.mp hj').1
    have rvi := ru.2 i (.bytes xs[i]) vi (by simp [hil]) hi'
    have rvj := ru.2 j (.bytes xs[j]) vj (by simp [hjl]) hj'
    obtain ⟨t, rfl⟩ := rvi.inv; obtain ⟨u, rfl⟩ := rvj.inv
    refine richCompare_gives (op := .Lt) (PySem.W.typeIs_bytes s' _ t) (PySem.W.typeIs_bytes s' _ u) slot_bytes_lt entry_bytes_lt (args_bytes_lt_2 _ _) (gives_bytes_lt _ _ t u) (fun e => nomatch e) ?_
    simp only [List.getD_eq_getElem?_getD, List.getElem?_eq_getElem hil, List.getElem?_eq_getElem hjl, Option.getD_some] at hQ
    exact hQ
  · obtain ⟨h1, h2⟩ := argBest_least (fun i => xs.getD i []) (us.toArray.size - 1)
    have hP' : us[argBest (fun i j => ord (xs.getD i []) (xs.getD j []) == .lt) (us.toArray.size - 1)]? = some v := by simpa using hP
    generalize argBest (fun i j => ord (xs.getD i []) (xs.getD j []) == .lt) (us.toArray.size - 1) = b at *
    have hbl : b < xs.length := by rw [← hlen]; exact (List.getElem?_eq_some_iff.mp hP').1
    have rv := ru.2 b (.bytes xs[b]) v (by simp [hbl]) hP'
    refine k g _ μ v h' tk (h xs[b] (List.getElem_mem _) fun x hx => ?_) (Stp.ext (pushed_kept hk) le M) rv
    obtain ⟨j, hj, rfl⟩ := List.getElem_of_mem hx
    have := h2 j (by simp [hlen]; walk_at "om")
    simpa [List.getD_eq_getElem?_getD, hbl, hj] using this
theorem CX.maxB {xs : List (List UInt8)} (hne : 0 < xs.length) (h : ∀ m, m ∈ xs → (∀ x ∈ xs, ole x m) → P g (.bytes m) μ) : CX w 1 (.builtin "max") [.list (xs.map .bytes)] g μ P := by
  intro A s E Q vs Rm B le M r k
  obtain ⟨v, rfl, r1⟩ := r.one
  obtain ⟨a, us, rfl, hl, ru⟩ := r1.unlist
  have hlen : us.length = xs.length := by rw [ru.1, List.length_map]
  have hls := (hl.mono le).isList
  have hlt : a < s.heap.objs.size := by obtain ⟨_, e⟩ := hl; exact Heap.lt_size (le _ _ e)
  refine call_max_walk (wpAny_pyIter_list hls ?_)
  refine ⟨_, _, _, _, _, _, fun i j => ord (xs.getD i []) (xs.getD j []) == .gt, rfl, Walks.list (A := A.in1) Rm.hh s.heap.objs.size a (Nat.ne_of_lt hlt) us.toArray, ⟨⟨_, Heap.get?_push_size _ rfl, rfl, rfl⟩, hls.push _⟩, fun b hb => ?_, by simpa [hlen] using hne, fun i j vi vj s' Q' E' hi hj hQ => ?_, fun v h' tk hP hk => ?_⟩
  · show b < (s.heap.push _).objs.size
    rw [Heap.size_push]
    rcases List.mem_cons.mp hb with rfl | hb
    · exact Nat.lt_succ_self _
    · rw [List.mem_singleton.mp hb]; exact Nat.lt_succ_of_lt hlt
  · have hi' : us[i]? = some vi := by simpa using hi
    have hj' : us[j]? = some vj := by simpa using hj
    have hil : i < xs.length := by rw [← hlen]; exact (List.getElem?_eq_some_iff.mp hi').1
    have hjl : j < xs.length := by rw [← hlen]; exact (List.getElem?_eq_some_iff.mp hj').1
    have rvi := ru.2 i (.bytes xs[i]) vi (by simp [hil]) hi'
    have rvj := ru.2 j (.bytes xs[j]) vj (by simp [hjl]) hj'
    obtain ⟨t, rfl⟩ := rvi.inv; obtain ⟨u, rfl⟩ := rvj.inv
    refine richCompare_gives (op := .Gt) (PySem.W.typeIs_bytes s' _ t) (PySem.W.typeIs_bytes s' _ u) slot_bytes_gt entry_bytes_gt (args_bytes_gt_2 _ _) (gives_bytes_gt _ _ t u) (fun e => nomatch e) ?_
    simp only [List.getD_eq_getElem?_getD, List.getElem?_eq_getElem hil, List.getElem?_eq_getElem hjl, Option.getD_some] at hQ
    exact hQ
  · obtain ⟨h1, h2⟩ := argBest_most (fun i => xs.getD i []) (us.toArray.size - 1)
    have hP' : us[argBest (fun i j => ord (xs.getD i []) (xs.getD j []) == .gt) (us.toArray.size - 1)]? = some v := by simpa using hP
    generalize argBest (fun i j => ord (xs.getD i []) (xs.getD j []) == .gt) (us.toArray.size - 1) = b at *
    have hbl : b < xs.length := by rw [← hlen]; exact (List.getElem?_eq_some_iff.mp hP').1
    have rv := ru.2 b (.bytes xs[b]) v (by simp [hbl]) hP'
    refine k g _ μ v h' tk (h xs[b] (List.getElem_mem _) fun x hx => ?_) (Stp.ext (pushed_kept hk) le M) rv
    obtain ⟨j, hj, rfl⟩ := List.getElem_of_mem hx
    have := h2 j (by simp [hlen]; walk_at "om")
    simpa [List.getD_eq_getElem?_getD, hbl, hj] using this
theorem RVs.intsAre {ns : List Int} {us : List Value} (r : RVs g (ns.map .int) us) : IntsAre us ns := by
  induction ns generalizing us with
  | nil => rw [r.unnil]; exact .nil
  | cons n ns ih =>
    obtain ⟨v, us', rfl, h1, h2⟩ := r.uncons
    cases h1
    exact .cons _ _ (ih h2)
theorem RVs.ofInts {ns : List Int} {us : List Value} (h : IntsAre us ns) : RVs g (ns.map .int) us := by
  induction h with
  | nil => exact .nil
  | cons n t h ih => exact .cons (.int ..) ih
theorem CX.sorted {ns : List Int} (h64 : ns.length < 64) (h : ∀ (ns' : List Int) g', Le g g' → ns'.Perm ns → ns'.Pairwise (· ≤ ·) → P g' (.list (ns'.map .int)) μ) : CX w 0 (.builtin "sorted") [.list (ns.map .int)] g μ P := by
  intro A s E Q vs Rm B le M r k
  obtain ⟨v, rfl, r1⟩ := r.one
  obtain ⟨a, us, rfl, hl, ru⟩ := r1.unlist
  refine sorted_ints (hl.mono le).isList ru.intsAre (by rw [ru.1, List.length_map]; exact h64) fun out ns' a1 a2 a3 => ?_
  obtain ⟨e, he⟩ := sortedAll_at s.heap us out
  obtain ⟨g', b, hg⟩ := Bk.newObj (w := w) le M (fun b o q => sortedAll_old (vs := us) (out := out) q) (fresh_ge (Nat.le_succ _)) he
  have hg' : LstAt g' (s.heap.objs.size + 1) out.toList := ⟨e, by rw [Array.toArray_toList]; exact hg⟩
  exact k g' _ μ _ _ s.toks (h ns' g' b.st.le a2 a3) b (.list' hg' (RVs.ofInts a1))
theorem CX.listRange {n : Nat} (hn : n ≤ 2 ^ 20) (h : ∀ g', Le g g' → P g' (.list ((List.range n).map fun (i : Nat) => AV.int i)) μ) : CX w 0 (.type "list") [.rng 0 n 1] g μ P := by
  intro A s E Q vs Rm B le M r k
  obtain ⟨v, rfl, r1⟩ := r.one
  obtain ⟨_, _, _, _, rfl, hr⟩ := r1.inv
  have hro := range_one hn
  refine call_list_range (n := n) Rm.hh (le _ _ hr) hro.1 hro.2 (by walk_at "om") fun h' tk acc c kp ho hi => ?_
  obtain ⟨g', b, hg⟩ := Bk.newObj (w := w) le M kp (fresh_ge (Nat.le_refl _)) ho
  have hg' : LstAt g' s.heap.objs.size acc.toList := ⟨c, by rw [Array.toArray_toList]; exact hg⟩
  refine k g' _ μ _ _ tk (h g' b.st.le) b (.list' hg' ⟨by rw [Array.length_toList, hi.1]; simp, fun i x v hx hv => ?_⟩)
  obtain ⟨t, rfl⟩ := hi.2 i v (by simpa using hv)
  have hin : i < n := by
    have := (List.getElem?_eq_some_iff.mp hx).1
    simpa using this
  have : x = .int ((0 : Int) + (i : Nat) * 1) := by
    simp [hin] at hx
    rw [← hx]; congr 1; walk_at "om"
  rw [this]; exact .int ..
theorem CX.lenB {b : List UInt8} (hz : b.length ≤ 2 ^ 24) (h : P g (.int b.length) μ) : CX w 0 (.builtin "len") [.bytes b] g μ P := by
  intro A s E Q vs Rm B le M r k
  obtain ⟨v, rfl, r1⟩ := r.one
  obtain ⟨t, rfl⟩ := r1.inv
  exact len_bytes (by rw [List.size_toArray]; walk_at "om") (k g _ μ _ s.heap _ h (.refl le M) (by rw [List.size_toArray]; exact .int ..))
end
end Mine
set_option tactic.hygienic false
open PySem PySem.W PySem.Calls PyProof.Rows
set_option Elab.async false
set_option maxRecDepth 100000
set_option linter.unusedVariables false
set_option linter.unusedSimpArgs false
namespace Mine
theorem b64_append : ∀ (a b : List UInt8), a.length % 3 = 0 → b64 (a ++ b) = b64 a ++ b64 b
  | [], b, _ => by simp [b64]
  | [_], _, h => by simp at h
  | [_, _], _, h => by simp at h
  | x :: y :: z :: r, b, h => by
    simp only [List.cons_append, b64, b64_append r b (by simp only [List.length_cons] at h; walk_at "od")]
theorem b64_len : ∀ (a : List UInt8), (b64 a).length = 4 * (a.length / 3)
  | [] => rfl
  | [_] => by simp [b64]
  | [_, _] => by simp [b64]
  | x :: y :: z :: r => by
    simp only [b64, List.length_cons, b64_len r]; walk_at "od"
theorem range_split {n x : Nat} {d r : List Nat} (h : List.range n = d ++ x :: r) : x = d.length ∧ d.length < n := by
  have h1 : d.length < (List.range n).length := by rw [h]; simp
  have h2 : (List.range n)[d.length]? = some x := by rw [h]; simp
  rw [List.getElem?_range (by simpa using h1)] at h2
  exact ⟨(Option.some.inj h2).symm, by simpa using h1⟩
theorem take3 (x : List UInt8) (i : Nat) (h : 3 * i + 2 < x.length) : x.take (3 * (i + 1)) = x.take (3 * i) ++ [x.getD (3 * i) 0, x.getD (3 * i + 1) 0, x.getD (3 * i + 2) 0] := by
  rw [show 3 * (i + 1) = 3 * i + 1 + 1 + 1 by walk_at "od", List.take_add_one, List.take_add_one, List.take_add_one]
  simp only [List.getD_eq_getElem?_getD, List.getElem?_eq_getElem (show 3 * i < x.length by walk_at "od"), List.getElem?_eq_getElem (show 3 * i + 1 < x.length by walk_at "od"), List.getElem?_eq_getElem (show 3 * i + 1 + 1 < x.length by walk_at "od"), List.getElem?_eq_getElem h, Option.toList_some, Option.getD_some, List.append_assoc, List.cons_append, List.nil_append]
section
variable {w : World} {g : Heap} {μ : Mu} {P : Heap → AV → Mu → Prop}
theorem sixes_idx (a b c : Nat) (hb : b < 256) (hc : c < 256) (ha : a < 256) :
    ((a * 65536 + b * 256 + c : Nat) : Int).fdiv 262144 = ((a / 4 : Nat) : Int) ∧ (((a * 65536 + b * 256 + c : Nat) : Int).fdiv 4096).fmod 64 = ((a % 4 * 16 + b / 16 : Nat) : Int) ∧
    (((a * 65536 + b * 256 + c : Nat) : Int).fdiv 64).fmod 64 = ((b % 16 * 4 + c / 64 : Nat) : Int) ∧ ((a * 65536 + b * 256 + c : Nat) : Int).fmod 64 = ((c % 64 : Nat) : Int) := by
  refine ⟨?_, ?_, ?_, ?_⟩
  · rw [Int.fdiv_eq_ediv_of_nonneg _ (by decide)]; walk_at "od"
  · rw [Int.fdiv_eq_ediv_of_nonneg _ (by decide), Int.fmod_eq_emod_of_nonneg _ (by decide)]; walk_at "od"
  · rw [Int.fdiv_eq_ediv_of_nonneg _ (by decide), Int.fmod_eq_emod_of_nonneg _ (by decide)]; walk_at "od"
  · rw [Int.fmod_eq_emod_of_nonneg _ (by decide)]; walk_at "od"
noncomputable abbrev SixI (x : List UInt8) (m : Nat) (g : Heap) (μ : Mu) : List AV → Heap → Vars → Mu → Prop := fun vs g' ρ' μ' => ∃ d r, vs = r.map (fun (i : Nat) => AV.int (0 + (i : Nat) * 3)) ∧ List.range m = d ++ r ∧ Le g g' ∧ ρ' = [(Str.ofString "octets", .bytes x), (Str.ofString "alphabet", .bytes alpha), (Str.ofString "signs", .list (byts (b64 (x.take (3 * d.length)))))] ∧ μ' = μ
theorem sixes_CX {x : List UInt8} (h3 : x.length % 3 = 0) (hz : x.length ≤ 2 ^ 10) (hp : ∀ g', Le g g' → P g' (.bytes (b64 x)) μ) : CX w 1 (.ref 131) [.bytes x] g μ P := by
  refine CX.top (n := 0) (ρ₀ := [(Str.ofString "octets", .bytes x)]) (by exact rfl) (by exact rfl) (bind1 (x := Str.ofString "octets") fun _ => rfl) rfl (by decide) (by decide) (by decide) (fun A L Rm => ?_)
  refine SX.cons (S1.assign (EX.cbytes ?_) (by exact .inl rfl))
  refine SX.cons (S1.assign (EX.list (LX.nil ⟨by decide, fun g₁ l₁ => ?_⟩)) (by exact .inl rfl))
  refine SX.cons (S1.for (EX.call (n := 0) Rm ?_))
  walk_at "tf"
  refine LX.cons (EX.cint (LX.cons (EX.call (n := 0) Rm ?_)))
  walk_at "bf"
  refine LX.cons ?_
  walk_at "nm"
  refine LX.nil (CX.lenB (by walk_at "od") (LX.cons (EX.cint (LX.nil (CX.range3 (by decide) (by decide) fun g₂ l₂ => ?_)))))
  obtain ⟨m, hm⟩ : ∃ m, x.length = 3 * m := ⟨x.length / 3, by walk_at "od"⟩
  rw [hm]
  have hr := range_three (m := m) (by walk_at "od")
  have lg₀ := l₁.trans l₂
  refine ⟨_, Src.rng Rm.hh hr.1 hr.2, ForX.inv (SixI x m g μ) ?_ ?_ ⟨[], List.range m, rfl, rfl, lg₀, rfl, rfl⟩⟩
  · rintro v vs g₃ _ _ ⟨d, r, hv, hd, lg, rfl, rfl⟩
    cases r with
    | nil => cases hv
    | cons i r =>
    simp only [List.map_cons, List.cons.injEq] at hv
    obtain ⟨rfl, rfl⟩ := hv
    obtain ⟨rfl, hi⟩ := range_split hd
    generalize hdl : d.length = i at *
    have hi2 : 3 * i + 2 < x.length := by walk_at "od"
    have ha := (x.getD (3 * i) 0).toNat_lt; have hb := (x.getD (3 * i + 1) 0).toNat_lt; have hc := (x.getD (3 * i + 2) 0).toNat_lt
    have e0 : (0 + (i : Int) * 3) = ((3 * i : Nat) : Int) := by walk_at "od"
    rw [e0]
    refine ⟨_, AsX.name (.inl (by rfl)), SX.forget ?_⟩
    refine SX.cons (S1.assign (EX.bin (EX.bin (EX.bin (EX.sub ?_)))) (by exact .inl rfl))
    walk_at "nm"; walk_at "nm"
    refine OX2.itemB ⟨fun _ _ => rfl, fun _ _ => rfl⟩ (by walk_at "od") (by walk_at "od") (by walk_at "od") (EX.cint (OX2.mul (.of_right (by decide)) (EX.bin (EX.sub ?_))))
    walk_at "nm"
    refine EX.bin ?_
    walk_at "nm"
    refine EX.cint (OX2.add (OX2.itemB ⟨fun _ _ => rfl, fun _ _ => rfl⟩ (by walk_at "od") (by walk_at "od") (by walk_at "od") (EX.cint (OX2.mul (.of_right (by decide)) (OX2.add (EX.sub ?_))))))
    walk_at "nm"
    refine EX.bin ?_
    walk_at "nm"
    refine EX.cint (OX2.add (OX2.itemB ⟨fun _ _ => rfl, fun _ _ => rfl⟩ (by walk_at "od") (by walk_at "od") (by walk_at "od") (OX2.add ?_)))
    have t1 : ((3 * i : Nat) : Int).toNat = 3 * i := Int.toNat_natCast _
    have t2 : (((3 * i : Nat) : Int) + 1).toNat = 3 * i + 1 := by walk_at "od"
    have t3 : (((3 * i : Nat) : Int) + 2).toNat = 3 * i + 2 := by walk_at "od"
    rw [t1, t2, t3]
    generalize hA : (x.getD (3 * i) 0).toNat = a at *
    generalize hB : (x.getD (3 * i + 1) 0).toNat = b at *
    generalize hC : (x.getD (3 * i + 2) 0).toNat = c at *
    have e1 : (a : Int) * 65536 + (b : Int) * 256 + (c : Int) = ((a * 65536 + b * 256 + c : Nat) : Int) := by walk_at "od"
    rw [e1]
    obtain ⟨q1, q2, q3, q4⟩ := sixes_idx a b c hb hc ha
    have hal : alpha.length = 64 := rfl
    refine SX.cons (S1.assign (EX.bin ?_) (by exact .inl rfl))
    walk_at "nm"
    refine EX.list (LX.cons (EX.sub ?_))
    walk_at "nm"
    refine EX.bin ?_
    walk_at "nm"
    refine EX.cint (OX2.fdiv (by decide) (pylong_small (by decide)) ?_)
    rw [q1]
    refine OX2.itemB ⟨fun _ _ => rfl, fun _ _ => rfl⟩ (by decide) (by walk_at "od") (by rw [hal]; walk_at "od") (LX.cons (EX.sub ?_))
    walk_at "nm"
    refine EX.bin (EX.bin ?_)
    walk_at "nm"
    refine EX.cint (OX2.fdiv (by decide) (pylong_small (by decide)) (EX.cint (OX2.mod (by decide) ?_)))
    rw [q2]
    refine OX2.itemB ⟨fun _ _ => rfl, fun _ _ => rfl⟩ (by decide) (by walk_at "od") (by rw [hal]; walk_at "od") (LX.cons (EX.sub ?_))
    walk_at "nm"
    refine EX.bin (EX.bin ?_)
    walk_at "nm"
    refine EX.cint (OX2.fdiv (by decide) (pylong_small (by decide)) (EX.cint (OX2.mod (by decide) ?_)))
    rw [q3]
    refine OX2.itemB ⟨fun _ _ => rfl, fun _ _ => rfl⟩ (by decide) (by walk_at "od") (by rw [hal]; walk_at "od") (LX.cons (EX.sub ?_))
    walk_at "nm"
    refine EX.bin ?_
    walk_at "nm"
    refine EX.cint (OX2.mod (by decide) ?_)
    rw [q4]
    refine OX2.itemB ⟨fun _ _ => rfl, fun _ _ => rfl⟩ (by decide) (by walk_at "od") (by rw [hal]; walk_at "od") (LX.nil ⟨by rw [sizeLine_eq]; simp, fun g₄ l₄ => ?_⟩)
    simp only [Int.toNat_natCast, ch_get]
    refine OX2.addL (by have := b64_len (x.take (3 * i)); simp only [List.length_map, List.length_cons, List.length_nil]; rw [this, List.length_take]; walk_at "od") fun g₅ l₅ => ?_
    refine SX.nil ⟨[(Str.ofString "octets", .bytes x), (Str.ofString "alphabet", .bytes alpha), (Str.ofString "signs", .list (byts (b64 (x.take (3 * (i + 1))))))], ⟨rfl, rfl, ?_, trivial⟩, d ++ [i], r, rfl, by simp [hd, hdl], (lg.trans l₄).trans l₅, by simp [hdl], rfl⟩
    have e2 : b64 (x.take (3 * (i + 1))) = b64 (x.take (3 * i)) ++ [ch (a / 4), ch (a % 4 * 16 + b / 16), ch (b % 16 * 4 + c / 64), ch (c % 64)] := by
      rw [take3 x i hi2, b64_append _ _ (by rw [List.length_take]; walk_at "od")]
      simp only [b64, hA, hB, hC]
    rw [e2]
    simp only [byts, List.map_append, List.map_cons, List.map_nil]
    rfl
  · rintro g₃ _ _ ⟨d, r, hv, hd, lg, rfl, rfl⟩
    have hr0 : r = [] := by cases r with | nil => rfl | cons b r => cases hv
    subst hr0
    have hdm : d.length = m := by have := congrArg List.length hd; simp at this; walk_at "od"
    rw [hdm, List.take_of_length_le (by walk_at "od")]
    refine SX.cons (S1.ret (EX.call (n := 0) Rm ?_))
    walk_at "tf"
    refine LX.cons ?_
    walk_at "nm"
    refine LX.nil (CX.bytesL (by rw [b64_len]; walk_at "od") ?_)
    exact hp g₃ lg
end
end Mine
set_option tactic.hygienic false
open PySem PySem.W PySem.Calls PyProof.Rows
set_option Elab.async false
set_option maxRecDepth 100000
set_option linter.unusedVariables false
set_option linter.unusedSimpArgs false
namespace Mine
section
variable {w : World} {A : Around} {env : Env} {g : Heap} {ρ : Vars} {μ : Mu}
noncomputable def CompX2 (w : World) (A : Around) (env : Env) (target target2 iter2 : Expr) (ifs : List Expr) (elt : Expr) (P : CP) : List AV → CP
  | [], g, ρ, μ, acc => P g ρ μ acc
  | v :: vs, g, ρ, μ, acc => ∃ ρ₁, AsL w A env target v g ρ μ ρ₁ ∧ EX w A env iter2 g ρ₁ μ fun g₂ a μ₂ => ∃ xs, Src w A a xs ∧
      CompX w A env target2 ifs elt (fun g₃ ρ₃ μ₃ acc₃ => CompX2 w A env target target2 iter2 ifs elt P vs g₃ ρ₃ μ₃ acc₃) xs g₂ ρ₁ μ₂ acc
noncomputable def tail2 (e iter2 : Expr) (acc : Value) (env : Env) (c : Code) : Sem Fin := do
  let x ← eval iter2 env
  standAt iter2.pos
  let x ← foldedSetIterable iter2 env x
  let _ ← runOwn (.compStart e 1 (← holding [x] (pyIter x)) acc env) env
  again c
theorem turn0 {elt target iter target2 iter2 : Expr} {ifs : List Expr} {scope : Scope} {pos : Pos} {it acc : Value} {env : Env} :
    compTurn (.ListComp elt [⟨target, iter, [], 0⟩, ⟨target2, iter2, ifs, 0⟩] scope pos) 0 it acc env = nextTail (.ListComp elt [⟨target, iter, [], 0⟩, ⟨target2, iter2, ifs, 0⟩] scope pos) 0 iter.pos target it acc env (tail2 (.ListComp elt [⟨target, iter, [], 0⟩, ⟨target2, iter2, ifs, 0⟩] scope pos) iter2 acc env (.compLoop (.ListComp elt [⟨target, iter, [], 0⟩, ⟨target2, iter2, ifs, 0⟩] scope pos) 0 it acc env)) := by rfl
theorem compStart_list1 {elt target iter target2 iter2 : Expr} {ifs : List Expr} {scope : Scope} {pos : Pos} {it acc : Value} {env : Env} {R : Result → Shared → Prop} {s : Shared}
    (h0 : codeAny (model PR w) A (.compLoop (.ListComp elt [⟨target, iter, [], 0⟩, ⟨target2, iter2, ifs, 0⟩] scope pos) 1 it acc env) R s)
    (h : wpAny (model PR w) A (pyIter it) (fun it' s' => codeAny (model PR w) A (.compLoop (.ListComp elt [⟨target, iter, [], 0⟩, ⟨target2, iter2, ifs, 0⟩] scope pos) 1 it' acc env) R s')
      (notedBy (model PR w) A env fun x s' => R (.error x) s') s) :
    codeAny (model PR w) A (.compStart (.ListComp elt [⟨target, iter, [], 0⟩, ⟨target2, iter2, ifs, 0⟩] scope pos) 1 it acc env) R s := by
  refine codeAny_of_tree ?_
  show wpAny _ _ ((compStart (.ListComp elt [⟨target, iter, [], 0⟩, ⟨target2, iter2, ifs, 0⟩] scope pos) 1 it acc env).onRaise (fun x => do noteFrame x env; standAt theWindowsPlace)) _ _ s
  refine wpAny_notedAt ?_
  unfold compStart
  show wpAny _ _ (ask >>= _) _ _ s
  refine wpAny_bind (wpAny_askSetting (wpAny_ite ?_))
  split
  · first
      | exact wpAny_bind (wpAny_pure (wpAny_pure (And.intro rfl h0)))
      | exact wpAny_pure (And.intro rfl h0)
  · first
      | exact wpAny_bind (wpAny_rule (wpAny_bind (wpAny_standAt (wpAny_bind (wpAny_mono h (fun it' s' h' => wpAny_pure (And.intro rfl h')) fun _ _ x => x)))))
      | (refine wpAny_bind (wpAny_rule ?_); show wpAny _ _ (standAt iter2.pos >>= _) _ _ s; exact wpAny_bind (wpAny_standAt (wpAny_bind (wpAny_mono h (fun it' s' h' => wpAny_pure (And.intro rfl h')) fun _ _ x => x))))
theorem tail2_X {D : Addr} {elt target iter target2 iter2 : Expr} {ifs : List Expr} {scope : Scope} {pos : Pos} {c : Code} {T : CP} {acc : List AV} (hm : A.mark none = A)
    (h : EX w A env iter2 g ρ μ fun g₂ a μ₂ => ∃ xs, Src w A a xs ∧ CompX w A env target2 ifs elt T xs g₂ ρ μ₂ acc)
    (hs : ∀ x, foldedSetIterable iter2 env x = pure x) :
    TailX w A env D (tail2 (.ListComp elt [⟨target, iter, [], 0⟩, ⟨target2, iter2, ifs, 0⟩] scope pos) iter2 (.ref D) env c) c T g ρ μ acc := by
  intro s wr μ₀ g₀ h₀ Q E cs k
  unfold tail2
  refine wpAny_bind (h.then cs.R fun g₁ a μ₁ v₁ s₁ h₁ b₁ R₁ r₁ e₁ => ?_)
  obtain ⟨h', tk, rfl⟩ := e₁
  obtain ⟨xs, hsrc, hX⟩ := h₁
  obtain ⟨cs₁, kd₁⟩ := cs.expr b₁
  refine wpAny_bind (wpAny_standAt (wpAny_bind (wpAny_of_eq (hs v₁) (wpAny_bind (wpAny_holding ?_)))))
  refine hsrc g₁ _ _ _ v₁ R₁.B R₁.le r₁ fun I wrI fp Pv St h₂ hwr hfp W hP hal hst kp => ?_
  have cs₂ := cs₁.more kp hwr (hal 0 h₂ hst).2
  have hdis : ∀ b ∈ wr, b ∉ wrI := fun b hb hI => by
    obtain ⟨o, e⟩ := cs₁.al b hb
    exact absurd ((hwr b hI).symm.trans e) nofun
  have loop : ∀ R : Result → Shared → Prop, (∀ g' ρ' μ' acc' h'' tk', T g' ρ' μ' acc' → CS w env D wr μ₀ g₀ h₀ g' ρ' μ' acc' h'' → Le g₁ g' → (∀ b ∈ wr, ∀ o, h₂.get? b = some o → h''.get? b = some o) → R (.ok .next) { s with heap := h'', toks := tk' }) →
      codeAny (model PR w) A (.compLoop (.ListComp elt [⟨target, iter, [], 0⟩, ⟨target2, iter2, ifs, 0⟩] scope pos) 1 (.ref I) (.ref D) env) R { s with heap := h₂, toks := tk } := fun R hR =>
    comp_loop (T := fun xs => CompX w A env target2 ifs elt T xs) turn2 (fun Q' E' s' hx => wpAny_noted hx) rfl (fun v vs g ρ μ acc hx => by
      obtain ⟨ρ₁, h1, h2⟩ := hx
      exact ⟨ρ₁, h1, tail1_X h2⟩) W hfp hP hal hdis cs₂ hst hX fun g' ρ' μ' acc' h'' tk' p cs' l kw => hR g' ρ' μ' acc' h'' tk' p cs' l kw
  refine wpAny_bind (wpAny_runOwn (h := none) ?_)
  rw [hm]
  have lp := loop (fun r s' => match r with | .ok f => wpAny (model PR w) A (again c) Q E s' | .error e => cameBackBy (model PR w) A env E e s') fun g' ρ' μ' acc' h'' tk' p cs' l kw => wpAny_pure (k g' ρ' μ' acc' h'' tk' p cs' (b₁.st.le.trans l) fun b hb o e => kw b hb o (kp _ _ (kd₁ b (.tail _ hb) o e)))
  exact compStart_list1 lp (W.self 0 _ _ _ hst lp)
theorem EX.comp2 {P : Heap → AV → Mu → Prop} {elt target iter target2 iter2 : Expr} {ifs : List Expr} {scope : Scope} {cl : List (Str × Addr)} {pos : Pos} {ρc : Vars}
    (hclos : closureFor scope env = pure cl) (hcap : Caps env scope cl ρ ρc) (hsub : SubC env cl)
    (h : EX w A env iter g ρ μ fun g₁ a μ₁ => ∃ xs, Src w A a xs ∧ ∀ C, CompX2 w A (compEnvC scope cl C env) target target2 iter2 ifs elt (fun g₂ ρ₂ μ₂ acc => ∀ g₃, Le g₂ g₃ → P g₃ (.list acc) μ₂) xs g₁ ρc μ₁ [])
    (hm : A.mark none = A) (hs2 : ∀ C x, foldedSetIterable iter2 (compEnvC scope cl C env) x = pure x := by intro _ _; rfl)
    (hcell : ∀ y ∈ scope.names, y.2 ≠ .cell := by decide) (hkind : scope.kind = .function := by rfl)
    (hnames : ∀ y ∈ scope.names, y.2 = .local → scope.names.lookup y.1 = some .local := by decide)
    (hs : ∀ x, foldedSetIterable iter env x = pure x := by intro _; rfl) :
    EX w A env (.ListComp elt [⟨target, iter, [], 0⟩, ⟨target2, iter2, ifs, 0⟩] scope pos) g ρ μ P := by
  intro s E Q R k
  rw [eval_ListComp]
  refine comp_run (use := none) (T := fun C xs => CompX2 w A (compEnvC scope cl C env) target target2 iter2 ifs elt (fun g₂ ρ₂ μ₂ acc => ∀ g₃, Le g₂ g₃ → P g₃ (.list acc) μ₂) xs) R hclos hcell hkind hnames hsub.mem hcap h hs (fun I D C => turn0) (fun I D C v vs g ρ μ acc hx => ?_) ?_
  · obtain ⟨ρ₁, h1, h2⟩ := hx
    exact ⟨ρ₁, h1, tail2_X hm h2 (hs2 C)⟩
  · intro g₁ μ₁ h₁ C D g₂ g₃ ρ₂ μ₂ acc m h₂ tk b₁ hx l b₂ r as hns hDC
    refine ⟨m, hns, fun h₃ hs₃ => ?_⟩
    have b₃ := as.bk b₂ (fun b o q e => (hs₃.2 b (by simpa using q)).trans e)
    exact k g₃ _ μ₂ _ h₃ tk (hx g₃ l) (b₁.trans b₃) r
end
end Mine
set_option tactic.hygienic false
open PySem PySem.W PySem.Calls PyProof.Rows
set_option Elab.async false
set_option maxRecDepth 100000
set_option linter.unusedVariables false
set_option linter.unusedSimpArgs false
namespace Mine
section
variable {w : World} {A : Around} {env : Env} {g : Heap} {ρ : Vars} {μ : Mu}
theorem AllIn.setv {ρ : Vars} {x : Str} {v : AV} : ∀ {ρc : Vars}, AllIn ρ ρc → ρc.lookup x = none → AllIn (setv ρ x v) ρc
  | [], _, _ => trivial
  | (y, a) :: r, h, hx => by
    rw [List.lookup_cons] at hx
    split at hx
    · cases hx
    · rename_i q
      have hne : ¬ y = x := fun e => by rw [e] at q; simp at q
      exact ⟨by rw [setv_lookup, if_neg hne]; exact h.1, h.2.setv hx⟩
theorem AllIn.setv' {ρ ρc : Vars} {x : Str} {v : AV} (h : AllIn ρ ρc) (hx : ρc.lookup x = none) : AllIn (Mine.setv ρ x v) ((x, v) :: ρc) := ⟨by rw [setv_lookup, if_pos rfl], h.setv hx⟩
theorem EX.of {e : Expr} {ρ₂ : Vars} {P : Heap → AV → Mu → Prop} (h : EX w A env e g ρ₂ μ P) (hi : AllIn ρ ρ₂) : EX w A env e g ρ μ P := fun s E Q R k => h s E Q (R.forget hi) k
theorem CompX.mapA {ι : Type} {x : Str} {px : Pos} {elt : Expr} {P : CP} {ρc : Vars} (f F : ι → AV) (hk : env.kindOf x = some .local) (hx : ρc.lookup x = none) {ys : List ι} {acc : List AV} (hi : AllIn ρ ρc)
    (h : ∀ y ∈ ys, ∀ g', Le g g' → EX w A env elt g' ((x, f y) :: ρc) μ fun g₃ a μ₃ => a = F y ∧ μ₃ = μ) (hz : acc.length + ys.length ≤ 2 ^ 24)
    (done : ∀ g' ρ', Le g g' → AllIn ρ' ρc → P g' ρ' μ (acc ++ ys.map F)) : CompX w A env (.Name x px) [] elt P (ys.map f) g ρ μ acc := by
  induction ys generalizing g ρ acc with
  | nil => have := done g ρ (.refl _) hi; rw [List.map_nil, List.append_nil] at this; exact this
  | cons y ys ih =>
    simp only [List.length_cons] at hz
    refine ⟨_, AsL.name hk, ?_⟩
    show EX w A env elt g _ μ _
    refine EX.of (((h y (.head _) g (.refl _))).withLe fun g₃ a μ₃ l₃ q => ?_) (hi.setv' hx)
    obtain ⟨rfl, rfl⟩ := q
    exact ⟨by walk_at "om", ih (hi.setv hx) (fun z hz' g' l => h z (.tail _ hz') g' (l₃.trans l)) (by simp; walk_at "om") fun g' ρ' l i => by rw [List.append_assoc]; exact done g' ρ' (l₃.trans l) i⟩
theorem CompX2.mapA {ι κ : Type} {x y : Str} {px py : Pos} {iter2 elt : Expr} {P : CP} {ρc : Vars} (f : ι → AV) (inner : ι → List κ) (fk : κ → AV) (F : ι → κ → AV) (hh : A.handled = none) (hk : env.kindOf x = some .local) (hky : env.kindOf y = some .local) (hx : ρc.lookup x = none) (hy : ρc.lookup y = none) (hxy : (y == x) = false)
    {is : List ι} {acc : List AV} (hi : AllIn ρ ρc)
    (h1 : ∀ i ∈ is, ∀ g', Le g g' → EX w A env iter2 g' ((x, f i) :: ρc) μ fun g₃ a μ₃ => a = .list ((inner i).map fk) ∧ μ₃ = μ)
    (h2 : ∀ i ∈ is, ∀ j ∈ inner i, ∀ g', Le g g' → EX w A env elt g' ((y, fk j) :: (x, f i) :: ρc) μ fun g₃ a μ₃ => a = F i j ∧ μ₃ = μ) (hz : acc.length + (is.flatMap inner).length ≤ 2 ^ 24)
    (done : ∀ g' ρ', Le g g' → P g' ρ' μ (acc ++ is.flatMap fun i => (inner i).map (F i))) : CompX2 w A env (.Name x px) (.Name y py) iter2 [] elt P (is.map f) g ρ μ acc := by
  induction is generalizing g ρ acc with
  | nil => have := done g ρ (.refl _); rw [List.flatMap_nil, List.append_nil] at this; exact this
  | cons i is ih =>
    simp only [List.flatMap_cons, List.length_append] at hz
    refine ⟨_, AsL.name hk, EX.of (((h1 i (.head _) g (.refl _))).withLe fun g₃ a μ₃ l₃ q => ?_) (hi.setv' hx)⟩
    obtain ⟨rfl, rfl⟩ := q
    refine ⟨_, Src.list hh, CompX.mapA (ρc := (x, f i) :: ρc) fk (F i) hky (by rw [List.lookup_cons, hxy]; exact hy) (hi.setv' hx) (fun j hj g' l => h2 i (.head _) j hj g' (l₃.trans l)) (by walk_at "om") fun g' ρ' l hi' => ?_⟩
    exact ih hi'.2 (fun i' hi' g'' l' => h1 i' (.tail _ hi') g'' ((l₃.trans l).trans l')) (fun i' hi' j hj g'' l' => h2 i' (.tail _ hi') j hj g'' ((l₃.trans l).trans l')) (by rw [List.length_append, List.length_map]; walk_at "om") fun g'' ρ'' l' => by
      rw [List.append_assoc]; exact done g'' ρ'' ((l₃.trans l).trans l')
end
noncomputable def orders : Nat → List Int → List (List Int)
  | _, [] => [[]]
  | 0, _ :: _ => []
  | n + 1, x :: xs => (List.range (x :: xs).length).flatMap fun k => (orders n ((x :: xs).take k ++ (x :: xs).drop (k + 1))).map fun r => (x :: xs).getD k 0 :: r
noncomputable abbrev il (xs : List Int) : AV := .list (xs.map .int)
theorem orders_mem : ∀ (n : Nat) (xs r : List Int), r ∈ orders n xs → r.length ≤ n
  | n, [], r, h => by
    have h1 : orders n [] = [[]] := by cases n <;> rfl
    rw [h1] at h
    rw [List.mem_singleton.mp h]; exact Nat.zero_le _
  | 0, _ :: _, r, h => nomatch h
  | n + 1, x :: xs, r, h => by
    rw [orders, List.mem_flatMap] at h
    obtain ⟨k, _, h⟩ := h
    obtain ⟨q, hq, rfl⟩ := List.mem_map.mp h
    have := orders_mem n _ q hq
    simp only [List.length_cons]; walk_at "om"
theorem orders_len : ∀ (n : Nat) (xs : List Int), xs.length ≤ n → n ≤ 5 → (orders n xs).length ≤ 5 ^ n
  | n, [], _, _ => by
    have h1 : orders n [] = [[]] := by cases n <;> rfl
    rw [h1]; exact Nat.one_le_pow n 5 (by decide)
  | 0, _ :: _, h, _ => by simp at h
  | n + 1, x :: xs, h, h5 => by
    rw [orders, List.length_flatMap]
    have hb : ∀ k ∈ List.range (x :: xs).length, ((orders n ((x :: xs).take k ++ (x :: xs).drop (k + 1))).map fun r => (x :: xs).getD k 0 :: r).length ≤ 5 ^ n := fun k hk => by
      rw [List.length_map]
      have := List.mem_range.mp hk
      refine orders_len n _ ?_ (by walk_at "om")
      simp only [List.length_append, List.length_take, List.length_drop] at *
      simp only [List.length_cons] at *
      walk_at "om"
    have : ∀ (l : List Nat) (f : Nat → Nat), (∀ k ∈ l, f k ≤ 5 ^ n) → (l.map f).sum ≤ l.length * 5 ^ n := by
      intro l f hf
      induction l with
      | nil => simp
      | cons k l ih =>
        have h1 := hf k (.head _)
        have h2 := ih fun k hk => hf k (.tail _ hk)
        simp only [List.map_cons, List.sum_cons, List.length_cons]
        rw [Nat.succ_mul]; walk_at "om"
    refine Nat.le_trans (this _ _ hb) ?_
    rw [List.length_range, Nat.pow_succ, Nat.mul_comm (5 ^ n)]
    exact Nat.mul_le_mul_right _ (by walk_at "om")
section
variable {w : World}
theorem orders_CX : ∀ (n : Nat) {xs : List Int} {g : Heap} {μ : Mu} {P : Heap → AV → Mu → Prop}, xs.length ≤ n → n ≤ 5 → (∀ g', Le g g' → P g' (.list ((orders n xs).map il)) μ) → CX w (n + 1) (.ref 112) [il xs] g μ P := by
  intro n
  induction n with
  | zero =>
    intro xs g μ P hl h5 hp
    obtain rfl : xs = [] := List.eq_nil_of_length_eq_zero (by walk_at "om")
    refine CX.topC (n := 0) (ρ₀ := [(Str.ofString "rows", il [])]) (by exact rfl) (by exact rfl) (bindR1 (x := Str.ofString "rows") fun _ => rfl) rfl (by decide) (fun L => ⟨.inr ⟨rfl, rfl⟩, trivial⟩) (fun A L Rm => ?_)
    refine SX.cons (S1.ite (TX.cmp ?_))
    walk_at "nc"
    refine EX.list (LX.nil ⟨by decide, fun g₁ l₁ => OX2.eqNil Rm.u ⟨_, rfl, ?_⟩⟩)
    rw [if_pos (by rfl)]
    refine SX.cons (S1.ret (EX.list (LX.cons (EX.list (LX.nil ⟨by decide, fun g₂ l₂ => LX.nil ⟨by decide, fun g₃ l₃ => ?_⟩⟩)))))
    exact hp g₃ ((l₁.trans l₂).trans l₃)
  | succ n ih =>
    intro xs g μ P hl h5 hp
    refine CX.topC (n := n + 1) (ρ₀ := [(Str.ofString "rows", il xs)]) (by exact rfl) (by exact rfl) (bindR1 (x := Str.ofString "rows") fun _ => rfl) rfl (by decide) (fun L => ⟨.inr ⟨rfl, rfl⟩, trivial⟩) (fun A L Rm => ?_)
    refine SX.cons (S1.ite (TX.cmp ?_))
    walk_at "nc"
    refine EX.list (LX.nil ⟨by decide, fun g₁ l₁ => OX2.eqNil Rm.u ⟨_, rfl, ?_⟩⟩)
    cases xs with
    | nil =>
      rw [if_pos (by rfl)]
      refine SX.cons (S1.ret (EX.list (LX.cons (EX.list (LX.nil ⟨by decide, fun g₂ l₂ => LX.nil ⟨by decide, fun g₃ l₃ => ?_⟩⟩)))))
      exact hp g₃ ((l₁.trans l₂).trans l₃)
    | cons x xs =>
      rw [if_neg (by simp)]
      refine SX.nil ?_
      refine SX.cons (S1.ret (EX.comp2 (cl := [(Str.ofString "rows", L + 1)]) (ρc := [(Str.ofString "rows", il (x :: xs))]) (by rfl) ⟨⟨rfl, .inl rfl, rfl, nofun⟩, trivial⟩ ⟨rfl, trivial⟩ (EX.call (n := 0) (Rm.le (by walk_at "om")) ?_) rfl))
      walk_at "tf"
      refine LX.cons (EX.call (n := 0) (Rm.le (by walk_at "om")) ?_)
      walk_at "bf"
      refine LX.cons ?_
      walk_at "nc"
      refine LX.nil (CX.lenL (by simp only [List.length_map]; walk_at "om") (LX.nil (CX.range1 fun g₂ l₂ => ?_)))
      rw [List.length_map]
      have hr := range_one (n := (x :: xs).length) (by walk_at "om")
      have l12 := l₁.trans l₂
      refine ⟨_, Src.rng Rm.hh hr.1 hr.2, fun C => ?_⟩
      have hord := orders_len (n + 1) (x :: xs) hl h5
      refine CompX2.mapA (ρc := [(Str.ofString "rows", il (x :: xs))]) _ (fun k => orders n ((x :: xs).take k ++ (x :: xs).drop (k + 1))) il (fun k r => il ((x :: xs).getD k 0 :: r)) Rm.hh (by rfl) (by rfl) rfl rfl (by decide) ⟨rfl, trivial⟩ (fun k hk g₃ l₃ => ?_) (fun k hk r hr g₃ l₃ => ?_) ?_ fun g₃ ρ₃ l₃ g₄ l₄ => ?_
      · have hk' : k < (x :: xs).length := List.mem_range.mp hk
        have e1 : ((0 : Int) + (k : Nat) * 1) = (k : Int) := by walk_at "om"
        rw [e1]
        refine EX.call (n := n + 1) Rm ?_
        walk_at "fn"
        refine LX.cons (EX.bin (EX.sliceL ?_))
        walk_at "nc"
        refine ⟨_, rfl, by simp only [List.length_map]; walk_at "om", ?_⟩
        show EX _ _ _ _ _ _ _ _
        walk_at "nm"
        refine ⟨_, rfl, ((x :: xs).take k).map .int, fun vs g r => ⟨vs.take k, pick_take vs (by rw [r.1, List.length_map]; walk_at "om"), by rw [List.map_take]; exact r.take k⟩, fun g₄ l₄ => EX.sliceL ?_⟩
        walk_at "nc"
        refine ⟨_, rfl, by simp only [List.length_map]; walk_at "om", ?_⟩
        show EX _ _ _ _ _ _ _ _
        refine EX.bin ?_
        walk_at "nm"
        refine EX.cint (OX2.add ⟨_, rfl, ((x :: xs).drop (k + 1)).map .int, fun vs g r => ⟨vs.drop (k + 1), pick_drop (n := k + 1) vs (by rw [r.1, List.length_map]; walk_at "om"), by rw [List.map_drop]; exact r.drop (k + 1)⟩, fun g₅ l₅ => OX2.addL (by simp only [List.length_map, List.length_take, List.length_drop]; walk_at "om") fun g₆ l₆ => LX.nil ?_⟩)
        rw [← List.map_append]
        refine ih (by simp only [List.length_append, List.length_take, List.length_drop, List.length_cons] at *; walk_at "om") (by walk_at "om") fun g₇ l₇ => ⟨rfl, rfl⟩
      · have hk' : k < (x :: xs).length := List.mem_range.mp hk
        have e1 : ((0 : Int) + (k : Nat) * 1) = (k : Int) := by walk_at "om"
        rw [e1]
        refine EX.bin (EX.list (LX.cons (EX.sub ?_)))
        walk_at "nc"; walk_at "nm"
        refine OX2.itemL (x := .int ((x :: xs).getD k 0)) ⟨fun _ _ => rfl, fun _ _ => rfl⟩ (by walk_at "om") (by walk_at "om") (by rw [Int.toNat_natCast, List.getElem?_map, List.getD_eq_getElem?_getD, List.getElem?_eq_getElem hk']; rfl) (LX.nil ⟨by rw [sizeLine_eq]; simp, fun g₄ l₄ => ?_⟩)
        walk_at "nm"
        exact OX2.addL (by have := orders_mem n _ r hr; simp only [List.length_map, List.length_cons, List.length_nil]; walk_at "om") fun g₅ l₅ => ⟨rfl, rfl⟩
      · have e : ((List.range (x :: xs).length).flatMap fun k => orders n ((x :: xs).take k ++ (x :: xs).drop (k + 1))).length = (orders (n + 1) (x :: xs)).length := by
          rw [orders, List.length_flatMap, List.length_flatMap]
          simp only [List.length_map]
        have h5' : 5 ^ (n + 1) ≤ 5 ^ 5 := Nat.pow_le_pow_right (by decide) h5
        rw [e]; simp only [List.length_nil]; walk_at "om"
      · have := hp g₄ ((l12.trans l₃).trans l₄)
        rw [orders, List.map_flatMap] at this
        simp only [List.map_map] at this
        exact this
end
end Mine
set_option tactic.hygienic false
open PySem PySem.W PySem.Calls PyProof.Rows
set_option Elab.async false
set_option maxRecDepth 100000
set_option linter.unusedVariables false
set_option linter.unusedSimpArgs false
namespace Mine
section
variable {w : World} {A : Around} {env : Env} {g : Heap} {ρ : Vars} {μ : Mu} {P : Heap → AV → Mu → Prop}
theorem Bk.bigStep {h H : Heap} {μ' : Mu} (le : Le g h) (M : MuRel g μ h) (hk : ∀ b o, ¬ mad μ b → h.get? b = some o → H.get? b = some o) (hd0 : ∀ b, mad μ b → ∃ o, H.get? b = some o) (hd : ∀ b, mad μ' b → ∃ o, H.get? b = some o)
    (hμ : ∀ b, mad μ' b → mad μ b ∨ h.get? b = none) (S : Addr → Bool) (hS : ∀ b, S b = true → h.get? b = none ∧ ¬ mad μ' b)
    (ok : ∀ g', Le g g' → Le g' H → (∀ b o, S b = true → H.get? b = some o → g'.get? b = some o) → MOk g' μ' H) : ∃ g', Bk w noF μ g h μ' g' H ∧ (∀ b o, S b = true → H.get? b = some o → g'.get? b = some o) := by
  have leH : Le g H := fun b o e => hk b o (fun m => by rw [M.off b m] at e; cases e) (le b o e)
  have hn : ∀ b o, S b = true → H.get? b = some o → (grow g H S).get? b = some o := fun b o q e => grow_new q e
  refine ⟨grow g H S, ⟨⟨grow_le leH, fun b o e => ?_, fun b o e _ m => hk b o m e, fun b o e => ?_, hμ⟩, grow_in, ⟨fun b m => ?_, hd, ok _ (grow_le leH) grow_in hn⟩⟩, hn⟩
  · rcases grow_old leH e with q | q
    · exact .inl q
    · exact .inr (hS b q).1
  · by_cases m : mad μ b
    · exact hd0 b m
    · exact ⟨o, hk b o m e⟩
  · cases q : (grow g H S).get? b with
    | none => rfl
    | some o =>
      rcases grow_old leH q with r | r
      · rcases hμ b m with n | n
        · rw [M.off b n] at r; cases r
        · rw [le b o r] at n; cases n
      · exact absurd m (hS b r).2
theorem CodesOk.snoc {l : List (Pos × Str)} {ps : Array Value} {pos : Pos} {q : Str} {cv : Value} (h : CodesOk g l ps) (ht : TriplesOk ps.toList) (hn : codeAmong pos ps.toList = none) (hc : g.CodeRec cv q)
    (hl : ∀ r ∈ l, (rawInt r.1.line = rawInt pos.line ∧ rawInt r.1.col = rawInt pos.col) → r.2 = q) : CodesOk g l (ps ++ #[rawInt pos.line, rawInt pos.col, cv]) := by
  intro r hr cv' e
  have hls : (ps ++ #[rawInt pos.line, rawInt pos.col, cv]).toList = ps.toList ++ [rawInt pos.line, rawInt pos.col, cv] := by simp
  rw [hls] at e
  have key : ∀ (l : List Value), TriplesOk l → codeAmong r.1 (l ++ [rawInt pos.line, rawInt pos.col, cv]) = some cv' → codeAmong r.1 l = some cv' ∨ (cv' = cv ∧ rawInt r.1.line = rawInt pos.line ∧ rawInt r.1.col = rawInt pos.col) := by
    intro l hl
    fun_induction TriplesOk l with
    | case1 =>
      intro e
      simp only [List.nil_append, codeAmong, rawInt] at e
      split at e
      · rename_i hc
        cases e
        simp only [Bool.and_eq_true, beq_iff_eq] at hc
        exact .inr ⟨rfl, by rw [rawInt, rawInt, hc.1], by rw [rawInt, rawInt, hc.2]⟩
      · cases e
    | case2 a t b u x rest ih =>
      intro e
      simp only [List.cons_append, codeAmong] at e ⊢
      split at e
      · rename_i hc; rw [if_pos hc]; exact .inl e
      · rename_i hc; rw [if_neg hc]; exact ih hl e
    | case3 l h1 h2 => exact hl.elim
  rcases key _ ht e with e | ⟨rfl, e1⟩
  · exact h r hr cv' e
  · rw [hl r hr e1]; exact hc
noncomputable abbrev lamFn (q : Str) (params : Arguments) (body : Expr) (scope : Scope) (pm cv ctv : Value) : FuncData := kla_fn "<lambda>" q params body scope [] pm cv ctv
noncomputable abbrev lamObj (q : Str) (params : Arguments) (body : Expr) (scope : Scope) (pm cv ctv : Value) : Obj := { cls := .type "function", data := .func (lamFn q params body scope pm cv ctv) }
inductive Tb : Addr → Pos → Str → Prop
  | laid : Tb 119 posLaid qLaid
  | law : Tb 133 posLaw qLaw
theorem TabI.one {pc : Option Addr} {h : Heap} {Pt : Addr} {pos : Pos} {q : Str} (x : TabI g pc h) (t : Tb Pt pos q) : ∃ ps, TabAt h Pt ps ∧ CodesOk g [(pos, q)] ps := by
  cases t
  · exact x.laid
  · exact x.law
theorem TabI.set {pc : Option Addr} {g' h H : Heap} {Pt : Addr} {pos : Pos} {q : Str} {ps : Array Value} (x : TabI g pc h) (t : Tb Pt pos q) (k : Le g g') (hk : ∀ b o, b ≠ Pt → h.get? b = some o → H.get? b = some o) (hn : TabAt H Pt ps) (hc : CodesOk g' [(pos, q)] ps) : TabI g' pc H := by
  have hpc : ∀ p, pc = some p → p ≠ Pt := fun p e => by
    have := x.pcne p e
    cases t
    · exact this.2.1
    · exact this.2.2
  refine ⟨?_, ?_, ?_, x.pcne⟩
  · cases t
    · exact ⟨ps, hn, hc⟩
    · obtain ⟨ps', ⟨h1, h2⟩, h3⟩ := x.laid; exact ⟨ps', ⟨hk _ _ (by decide) h1, h2⟩, h3.mono k⟩
  · cases t
    · obtain ⟨ps', ⟨h1, h2⟩, h3⟩ := x.law; exact ⟨ps', ⟨hk _ _ (by decide) h1, h2⟩, h3.mono k⟩
    · exact ⟨ps, hn, hc⟩
  · obtain ⟨ps', ⟨h1, h2⟩, h3⟩ := x.cls
    exact ⟨ps', ⟨hk _ _ (by cases t <;> decide) h1, h2⟩, h3.keep k fun p e o => hk p o (hpc p e)⟩
theorem codeRec_freeze {h H g' : Heap} {cv : Value} {q : Str} (hc : H.CodeRec cv q) (hn : ∀ c, cv = .ref c → ∀ o, H.get? c = some o → g'.get? c = some o) : g'.CodeRec cv q :=
  let ⟨c, o, vs, t, e, hg, r⟩ := hc; ⟨c, o, vs, t, e, hn c e o hg, r⟩
theorem EX.lam {pc : Option Addr} {params : Arguments} {body : Expr} {scope : Scope} {pos : Pos} {c Pt : Addr} {q : Str} (t : Tb Pt pos q) (hcode : env.code = .ref c) (hC : Base w g → CodeHd g c Pt) (hq : env.qual ++ "<lambda>" = q) (hcl : closureFor scope env = pure []) (hdef : defaultsOf params env = ([], []))
    (h : ∀ g' f pm cv ctv, Le g g' → g'.get? f = some (lamObj q params body scope pm cv ctv) → g'.CodeRec cv q → P g' (.raw (.ref f)) (some (.tab pc))) : EX w A env (.Lambda params body scope pos) g ρ (some (.tab pc)) P := by
  intro s E Q R k
  refine kla_eval hdef ?_
  obtain ⟨p, loose, me, mg, mb, T⟩ := R.B.T
  have X : TabI g pc s.heap := R.mu.ok
  obtain ⟨ps, ⟨hP, ht⟩, hco⟩ := X.one t
  have hgs : s.heap.Ns mainGlobals mg := T.g.keeps R.le
  obtain ⟨bm, ob, b1, b2, b3, b4, b5, b6⟩ := T.bmain
  have hgP : mainGlobals ≠ Pt := by cases t <;> decide
  have hbP : bm ≠ Pt := fun e => by
    have := R.le _ _ b3
    rw [e, hP] at this; cases this; cases b4
  have hbG : bm ≠ mainGlobals := fun e => by
    obtain ⟨o, es, ep, e', hd, _⟩ := T.g
    rw [e, e'] at b3; cases b3; rw [hd] at b6; cases b6
  have CH := (hC R.B).keeps R.le
  have hmad : mad (some (.tab pc)) Pt := by cases t; exact .inr (.inl rfl); exact .inr (.inr (.inl rfl))
  have hb : s.heap.BuiltinsAt mg Pt := ⟨bm, ob, b1, b2, hbG, hbP, R.le _ _ b3, b4, b5, b6⟩
  rw [hq]
  cases hf : codeAmong pos ps.toList with
  | some cv =>
    refine kla_makeFunctionHit hcl R.L.gl hgs hcode CH hP ht hf hb fun ctv h' tk hk hsz => ?_
    have kp : Le s.heap (h'.push (lamObj q params body scope ((mg "__name__").getD .none) cv ctv)) := fun b o e => Heap.get?_push_of_some _ (hk b o e)
    have hn : s.heap.get? h'.objs.size = none := by
      cases e : s.heap.get? h'.objs.size with
      | none => rfl
      | some o => exact absurd (hk _ _ e) (by rw [fresh_size]; nofun)
    obtain ⟨g', b, hg⟩ := Bk.newObj (w := w) R.le R.mu kp hn (Heap.get?_push_size _ rfl)
    exact k g' _ _ _ _ tk (h g' _ _ cv ctv b.st.le hg ((hco (pos, q) (.head _) cv hf).keeps b.st.le)) b (.raw _)
  | none =>
    refine kla_makeFunction hcl R.L.gl hgs hcode CH hP ht hf hgP hb fun c' ctv h' tk hx hge hlt hrec htb => ?_
    have hx' : ∀ b o, b ≠ Pt → s.heap.get? b = some o → (h'.push (kla_obj "<lambda>" q params body scope [] ((mg "__name__").getD .none) c' ctv)).get? b = some o := fun b o hb e => Heap.get?_push_of_some _ (hx b o hb e)
    have hPn : (h'.push (kla_obj "<lambda>" q params body scope [] ((mg "__name__").getD .none) c' ctv)).get? Pt = some (tabObj (ps ++ #[rawInt pos.line, rawInt pos.col, .ref c'])) := Heap.get?_push_of_some _ htb
    have hall : ∀ b, mad (some (.tab pc)) b → ∃ o, (h'.push (kla_obj "<lambda>" q params body scope [] ((mg "__name__").getD .none) c' ctv)).get? b = some o := fun b m => by
      by_cases e : b = Pt
      · exact ⟨_, e ▸ hPn⟩
      · obtain ⟨o, ho⟩ := R.mu.there b m; exact ⟨o, hx' b o e ho⟩
    have hrec' := hrec.push (kla_obj "<lambda>" q params body scope [] ((mg "__name__").getD .none) c' ctv)
    have hfn : s.heap.get? h'.objs.size = none := by
      cases e : s.heap.get? h'.objs.size with
      | none => rfl
      | some o =>
        by_cases hb : h'.objs.size = Pt
        · rw [hb] at e
          have := Heap.lt_size htb
          exact absurd this (by rw [← hb]; exact Nat.lt_irrefl _)
        · exact absurd (hx _ _ hb e) (by rw [fresh_size]; nofun)
    have hcn : s.heap.get? c' = none := fresh_ge hge
    obtain ⟨g', b, hg⟩ := Bk.bigStep (w := w) (μ' := some (.tab pc)) R.le R.mu (fun b o m e => hx' b o (fun q => m (q ▸ hmad)) e) hall hall (fun b m => .inl m) (fun b => (s.heap.get? b).isNone) (fun b hb => by
      have hb' : s.heap.get? b = none := by simpa using hb
      refine ⟨hb', fun m => ?_⟩
      obtain ⟨o, e⟩ := R.mu.there b m
      rw [hb'] at e; cases e) (fun g' l l' hn => by
      have hcr : g'.CodeRec (.ref c') q := codeRec_freeze (h := s.heap) hrec' fun c e o ho => by cases e; exact hn _ o (by simp [hcn]) ho
      refine X.set t l hx' ⟨hPn, ?_⟩ ((hco.mono l).snoc ht hf hcr fun r hr _ => by rw [List.mem_singleton.mp hr])
      have : (ps ++ #[rawInt pos.line, rawInt pos.col, Value.ref c']).toList = ps.toList ++ [rawInt pos.line, rawInt pos.col, .ref c'] := by simp
      rw [this]; exact TriplesOk_snoc _ _ _ _ ht)
    have hgf := hg h'.objs.size _ (by simp [hfn]) (Heap.get?_push_size _ rfl)
    refine k g' _ _ _ _ tk (h g' _ _ (.ref c') ctv b.st.le hgf (codeRec_freeze (h := s.heap) hrec' fun c e o ho => ?_)) b (.raw _)
    cases e; exact hg _ o (by simp [hcn]) ho
end
section
variable {w : World} {g : Heap} {μ : Mu} {P : Heap → AV → Mu → Prop}
theorem CX.lam {n : Nat} {f : Addr} {q : Str} {params : Arguments} {body : Expr} {scope : Scope} {pm cv ctv : Value} {args : List AV} {ρ₀ : Vars} {names : List Str}
    (ho : g.get? f = some (lamObj q params body scope pm cv ctv)) (hcd : g.CodeRec cv q)
    (hb : ∀ (vs : List Value), RVs g args vs → ∃ binds, bindArgs (lamFn q params body scope pm cv ctv) ⟨vs, []⟩ = pure binds ∧ binds.map (·.1) = names ∧ RVs g (ρ₀.map (·.2)) (binds.map (·.2)))
    (hnm : ρ₀.map (·.1) = names) (nd : names.Nodup) (hloc : ∀ x ∈ names, scope.names.lookup x = some .local) (hcell : ∀ x ∈ scope.names, x.2 ≠ .cell)
    (h : ∀ A L, Room A n → EX w A (callEnv (lamFn q params body scope pm cv ctv) L f) body g ρ₀ μ P)
    (hco : scope.isCoroutine = false := by rfl) (hgen : scope.isGenerator = false := by rfl) (hk : scope.kind = .function := by rfl) : CX w (n + 1) (.ref f) args g μ P := by
  intro A s E Q vs Rm B le M r k
  obtain ⟨p, l, me, mg, mb, T⟩ := B.T
  obtain ⟨binds, hb1, hb2, hb3⟩ := hb vs r
  refine wpAny_call (kla_callFunE (by have := Rm.dp; walk_at "om") (le _ _ ho) rfl hco hgen rfl (hcd.keeps le) ?_)
  rw [hb1]
  refine wpAny_pure (wpAny_newFunctionEnv hcell (fun x hx => hloc _ (hb2 ▸ List.mem_map_of_mem hx)) (fun h₁ hns hsb => ⟨((T.nolimit).keeps le).fresh _ hsb, ?_⟩) hk)
  have kp : Le s.heap h₁ := fun b o e => hsb.extBut b o (Nat.ne_of_lt (Heap.lt_size e)) (Heap.get?_push_of_some _ e)
  have L := Loc.enter (g := g) (ρ₀ := ρ₀) (ρf := []) (env := callEnv (lamFn q params body scope pm cv ctv) s.heap.objs.size f) le rfl (fresh_size _) hk rfl rfl hns kp (hb2.trans hnm.symm) hb3 (hnm ▸ nd)
    (fun x hx => by
      have e : (callEnv (lamFn q params body scope pm cv ctv) s.heap.objs.size f).kindOf x = some .local := hloc x (hnm ▸ hx)
      rw [e]; exact ⟨nofun, nofun⟩) (fun x _ => rfl)
    (fun x hx => hcell _ (mem_of_lookup (show scope.names.lookup x = some .cell from hx)) rfl) (fun x a hx => nomatch hx) (fun x c hx => nomatch hx) (fun x y c hx => nomatch hx)
  rw [List.append_nil] at L
  have nown : ∀ b o, s.heap.get? b = some o → ¬ own (callEnv (lamFn q params body scope pm cv ctv) s.heap.objs.size f) b := fun b o e => by
    rintro (rfl | ⟨x, hx, _⟩)
    · exact absurd (Heap.lt_size e) (Nat.lt_irrefl _)
    · exact hcell _ (mem_of_lookup (show scope.names.lookup x = some .cell from hx)) rfl
  have b₁ : Bk w noF μ g s.heap μ g h₁ := Stp.ext kp le M
  have R₁ : Rel w g (callEnv (lamFn q params body scope pm cv ctv) s.heap.objs.size f) ρ₀ μ h₁ := ⟨B, le.trans kp, L, b₁.mu, fun b m => by
    obtain ⟨o₂, m2⟩ := M.there b m
    exact ⟨nown b _ m2, fun x hx => nomatch hx⟩⟩
  refine kla_codeExpr (h _ _ (Rm.deeper _) _ _ _ R₁ fun g' c μ' v h' tk p b rv => ?_)
  exact k g' c μ' v h' tk p (b₁.trans b) rv
end
end Mine
set_option tactic.hygienic false
open PySem PySem.W PySem.Calls PyProof.Rows
set_option Elab.async false
set_option maxRecDepth 100000
set_option linter.unusedVariables false
set_option linter.unusedSimpArgs false
namespace Mine
section
variable {w : World} {A : Around} {env : Env} {g : Heap} {ρ : Vars} {μ : Mu} {P : Heap → Fl → Vars → Mu → Prop}
theorem iter_list {xs : List AV} {s : Shared} {E : Value → Shared → Prop} {Q : Value → Shared → Prop} {va : Value} (hh : A.handled = none) (le : Le g s.heap) (r : RV g (.list xs) va)
    (k : ∀ (I : Addr) (wr fp : List Addr) (Pv : Nat → Value → Prop) (St : Nat → Heap → Prop) (h' : Heap), (∀ b ∈ wr, s.heap.get? b = none) → (∀ b ∈ fp, b ∈ wr ∨ (g.get? b).isSome = true) → Walks PR w A I fp wr xs.length Pv St →
      (∀ i v, Pv i v → ∃ x, xs[i]? = some x ∧ RV g x v) → (∀ i h, St i h → PlainIt h I ∧ ∀ b ∈ wr, ∃ o, h.get? b = some o) → St 0 h' → Le s.heap h' →
      Q (.ref I) { s with heap := h' }) : wpAny (model PR w) A (call (.builtin "iter") [va]) Q E s := by
  obtain ⟨a, us, rfl, hl, ru⟩ := r.unlist
  have hls : s.heap.IsList a us.toArray := (hl.mono le).isList
  have hg : ∃ o, g.get? a = some o := let ⟨n, e⟩ := hl; ⟨_, e⟩
  have hlt : a < s.heap.objs.size := by obtain ⟨o, e⟩ := hg; exact Heap.lt_size (le _ _ e)
  refine call_function_entry (by decide +kernel) (by decide +kernel) kdk_entry_iter (kdk_args_iter _) ?_
  unfold Builtin.«iter»
  refine wpAny_bind (m := someArgs "iter" 1 2 _) (wpAny_of_eq (a := [Value.ref a]) (by first | rfl | kernel_rfl!) ?_)
  show wpAny _ _ (pyIter (.ref a) >>= _) _ _ _
  refine wpAny_bind (wpAny_pyIter_list hls ?_)
  have W := Walks.list (prog := PR) (w := w) hh s.heap.objs.size a (Nat.ne_of_lt hlt) us.toArray
  rw [show us.toArray.size = xs.length by rw [List.size_toArray]; exact ru.1] at W
  refine wpAny_pure ⟨_, rfl, k _ _ _ _ _ _ (fun b hb => ?_) (fun b hb => ?_) W (fun i v hv => ?_) (fun i h st => ⟨(let ⟨⟨o, ho, hc, _⟩, _⟩ := st; ⟨o, _, ho, hc, by decide⟩), fun b hb => ?_⟩) ⟨⟨_, Heap.get?_push_size _ rfl, rfl, rfl⟩, hls.at fun o e => Heap.get?_push_of_some _ e⟩ (le_push _ _)⟩
  · rw [List.mem_singleton.mp hb]; exact fresh_size _
  · rcases List.mem_cons.mp hb with rfl | hb
    · exact .inl (.head _)
    · rw [List.mem_singleton.mp hb]; exact .inr (Option.isSome_iff_exists.mpr hg)
  · have hv' : us[i]? = some v := by simpa using hv
    have hi : i < xs.length := by rw [← ru.1]; exact (List.getElem?_eq_some_iff.mp hv').1
    exact ⟨xs[i], List.getElem?_eq_getElem hi, ru.2 i _ v (List.getElem?_eq_getElem hi) hv'⟩
  · rw [List.mem_singleton.mp hb]; obtain ⟨⟨o, ho, _⟩, _⟩ := st; exact ⟨o, ho⟩
theorem SX.iter3 {it : Str} {p p2 p3 pos1 pos2 pos3 : Pos} {e : Expr} {st2 : Stmt} {target : Expr} {body rest : List Stmt} {iname : Str} (hh : A.handled = none)
    (hfi : ∀ (P : Heap → AV → Mu → Prop), P g (.raw (.builtin "iter")) μ → EX w A env (.Name iname p2) g ρ μ P) (hit : env.kindOf it = some .local)
    (h : EX w A env e g ρ μ fun g₁ a μ₁ => ∃ xs, a = .list xs ∧ ∀ I, S1 w A env st2 g₁ (setv ρ it (.raw (.ref I))) μ₁ fun g₂ f ρ₂ μ₂ => f = .next ∧ ρ₂.lookup it = some (.raw (.ref I)) ∧
      ForX w A env target body (Then w A env rest P) xs g₂ ρ₂ μ₂)
    (hs : swapsWith (.Call (.Name iname p2) [e] [] pos2) (some (.Name it p)) pos1.line env = pure false := by rfl)
    (hp : (backTo pos2 (starEach [e] env)).any (·.1) = false := by rfl) (he : starEach [e] env = (false, eval e env) :: starEach [] env := by rfl)
    (hsf : ∀ x, foldedSetIterable (.Name it p3) env x = pure x := by intro _; rfl) (hd : (it == ("__debug__" : Str)) = false := by decide) :
    SX w A env (.Assign [.Name it p] (.Call (.Name iname p2) [e] [] pos2) pos1 :: st2 :: .For target (.Name it p3) body [] pos3 :: rest) g ρ μ P := by
  intro s E Q R k
  refine wpAny_execs_cons (wpAny_Assign_Name (wpAny_bind (m := eval (.Name iname p2) env) ((hfi (fun g' a μ' => g' = g ∧ a = .raw (.builtin "iter") ∧ μ' = μ) ⟨rfl, rfl, rfl⟩).then R fun g₀ f μ₀ v₀ s₀ h₀ b₀ R₀ r₀ e₀ => ?_)) hs)
  obtain ⟨h', tk, rfl⟩ := e₀
  obtain ⟨rfl, rfl, rfl⟩ := h₀
  have ev : v₀ = .builtin "iter" := by obtain ⟨_, h⟩ := r₀.inv; exact h
  subst ev
  refine callWith_of (P := fun _ => True) (by show ((backTo pos2 (starEach [e] env)).any (·.1) || false) = false; rw [hp]; rfl) (fun h _ => Kpt.builtin (g := h) _ h (.refl _)) ?_
  have fin : wpAny (model PR w) A (spliced (backTo pos2 (starEach [e] env))) (fun vs s₁ => True ∧ wpAny (model PR w) A (PySem.call (.builtin "iter") ([] ++ vs)) (fun v s₂ => wpAny (model PR w) A (storeName env it v) (fun _ s₃ => match Flow.next with | .next => wpAny (model PR w) A (execs (st2 :: .For target (.Name it p3) body [] pos3 :: rest) env) Q E s₃ | f => Q f s₃) E s₂) E s₁) E { s with heap := h', toks := tk } := by
    refine args_cons (h.then R₀ fun g₁ a μ₁ v₁ s₁ h₁ b₁ R₁ r₁ e₁ => ?_) he
    obtain ⟨h'', tk', rfl⟩ := e₁
    obtain ⟨xs, rfl, h₁⟩ := h₁
    refine args_nil ⟨trivial, ?_⟩
    refine iter_list hh R₁.le r₁ fun I wr fp Pv St h₂ hwr hfp W hP hal hst kp => ?_
    have as₀ := Aside.start R₁ hwr
    have b₂ : Bk w noF μ₁ g₁ h'' μ₁ g₁ h₂ := Stp.ext kp R₁.le R₁.mu
    have R₂ := R₁.step b₂
    have al₂ : ∀ b ∈ wr, ∃ o, h₂.get? b = some o := (hal 0 h₂ hst).2
    refine store_loc (s := { s with heap := h₂, toks := tk' }) R₂ hit (.raw _) fun h₃ tk₃ b₃ R₃ => ?_
    have as₃ : Aside wr env μ₁ g₁ h'' := as₀
    have hst₃ : St 0 h₃ := W.frame _ _ _ hst fun b hb o e => by
      rcases hfp b hb with q | q
      · exact b₃.st.kp b o e (as₃.own b q) (as₃.mu b q)
      · obtain ⟨o', e'⟩ := Option.isSome_iff_exists.mp q
        have e3 := R₂.le b o' e'
        have e3' : h₂.get? b = some o := e
        rw [e3'] at e3; cases e3
        exact b₃.le b o e'
    have al₃ := (hal 0 h₃ hst₃).2
    refine wpAny_execs_cons (h₁ I _ _ _ R₃ fun g₄ f ρ₄ μ₄ fl h₄ tk₄ p₄ b₄ R₄ r₄ => ?_)
    obtain ⟨rfl, hlk, hfor⟩ := p₄
    cases r₄
    have as₄ := as₃.next al₃ b₄
    have hst₄ : St 0 h₄ := W.frame _ _ _ hst₃ fun b hb o e => by
      rcases hfp b hb with q | q
      · exact b₄.st.kp b o e (as₃.own b q) (as₃.mu b q)
      · obtain ⟨o', e'⟩ := Option.isSome_iff_exists.mp q
        have e3 := R₃.le b o' e'
        have e3' : h₃.get? b = some o := e
        rw [e3'] at e3; cases e3
        exact R₄.le b o (b₄.st.le b o e')
    obtain ⟨m, hn, hm⟩ := R₄.L.ns
    obtain ⟨v, hv, rv⟩ := hm it _ hlk hit
    have evv : v = .ref I := by obtain ⟨_, h⟩ := rv.inv; exact h
    subst evv
    refine wpAny_execs_cons (wpAny_For (wpAny_Name (wpAny_loadName_local R₄.L.fn hit hn hv (W.self 0 _ _ _ hst₄ ?_)) hd) hsf)
    have hP₄ : ∀ i v, Pv i v → ∃ x, xs[i]? = some x ∧ RV g₄ x v := fun i v hv => let ⟨x, h1, h2⟩ := hP i v hv; ⟨x, h1, h2.mono b₄.st.le⟩
    have hfp₄ : ∀ b ∈ fp, b ∈ wr ∨ (g₄.get? b).isSome = true := fun b hb => (hfp b hb).imp id fun q => by
      obtain ⟨o', e'⟩ := Option.isSome_iff_exists.mp q
      exact Option.isSome_iff_exists.mpr ⟨o', b₄.st.le b o' e'⟩
    have bT : Bk w (own env) μ₁ g₁ h'' μ₄ g₄ h₄ := (b₂.weak.trans b₃).trans b₄
    refine for_core (s := { s with heap := h₄, toks := tk₄ }) (h₀ := h'') (g₀ := g₁) (μ₀ := μ₁) W hfp₄ hP₄ hal as₄ bT R₄ hst₄ hfor fun g₅ f ρ₅ μ₅ fl h₅ tk₅ p₅ b₅ R₅ r₅ => ?_
    have bA := (b₀.weak.trans b₁.weak).trans b₅
    cases r₅ with
    | next => exact p₅ _ _ _ R₅ fun g₆ f ρ₆ μ₆ fl h₆ tk₆ p₆ b₆ R₆ r₆ => k g₆ f ρ₆ μ₆ fl h₆ tk₆ p₆ (bA.trans b₆) R₆ r₆
    | brk => exact k g₅ _ ρ₅ μ₅ _ h₅ tk₅ p₅ bA R₅ .brk
    | cont => exact k g₅ _ ρ₅ μ₅ _ h₅ tk₅ p₅ bA R₅ .cont
    | ret r => exact k g₅ _ ρ₅ μ₅ _ h₅ tk₅ p₅ bA R₅ (.ret r)
  rw [he] at fin ⊢
  exact evalArgs_plain fin
end
end Mine
set_option tactic.hygienic false
open PySem PySem.W PySem.Calls PyProof.Rows
set_option Elab.async false
set_option maxRecDepth 100000
set_option linter.unusedVariables false
set_option linter.unusedSimpArgs false
namespace Mine
section
variable {w : World} {g : Heap} {μ : Mu} {P : Heap → AV → Mu → Prop}
theorem CX.withLe {n : Nat} {f : Value} {args : List AV} {P P' : Heap → AV → Mu → Prop} (h : CX w n f args g μ P') (k : ∀ g' a μ', Le g g' → P' g' a μ' → P g' a μ') : CX w n f args g μ P :=
  fun A s E Q vs R B L M V c => h A s E Q vs R B L M V fun g' a μ' v h' tk p b => c g' a μ' v h' tk (k _ _ _ b.st.le p) b
theorem OX2.isBytesRef {A : Around} {x : List UInt8} {a : Addr} (h : P g (.bool false) μ) : OX2 w A (compareOp .Is) (.bytes x) (.raw (.ref a)) g μ P := by
  refine pure2 (fun s E Q va vb g r1 r2 k => ?_) h
  obtain ⟨_, rfl⟩ := r1.inv; obtain ⟨_, rfl⟩ := r2.inv
  exact wpAny_is_plain rfl (k _ s.toks (.bool _))
theorem SX.of {A : Around} {env : Env} {ss : List Stmt} {ρ ρ₂ : Vars} {P : Heap → Fl → Vars → Mu → Prop} (h : SX w A env ss g ρ₂ μ P) (hi : AllIn ρ ρ₂) : SX w A env ss g ρ μ P := fun s E Q R k => h s E Q (R.forget hi) k
noncomputable def laid (init : List UInt8) (rows : List (List UInt8)) : List UInt8 := init ++ (rows.map b64).flatten
noncomputable abbrev RedI (rows : List (List UInt8)) (init : List UInt8) (f : Addr) (g : Heap) (μ : Mu) : List AV → Heap → Vars → Mu → Prop := fun vs g' ρ' μ' => ∃ d r, vs = r.map AV.bytes ∧ rows = d ++ r ∧ Le g g' ∧ AllIn ρ' [(Str.ofString "function", .raw (.ref f)), (Str.ofString "value", .bytes (laid init d))] ∧ μ' = μ
theorem reduce_CX {n : Nat} {f : Addr} {of : Obj} {fd : FuncData} {init : List UInt8} {rows : List (List UInt8)} (ho : g.get? f = some of) (hfd : of.data = .func fd)
    (hf : ∀ g' text row, Le g g' → row ∈ rows → (∃ i, text = laid init (rows.take i)) → CX w n (.ref f) [.bytes text, .bytes row] g' μ fun g'' a μ' => a = .bytes (text ++ b64 row) ∧ μ' = μ)
    (hp : ∀ g', Le g g' → P g' (.bytes (laid init rows)) μ) : CX w (n + 1) (.ref 95) [.raw (.ref f), .list (rows.map .bytes), .bytes init] g μ P := by
  refine CX.top (n := n) (ρ₀ := [(Str.ofString "function", .raw (.ref f)), (Str.ofString "sequence", .list (rows.map .bytes)), (Str.ofString "initial", .bytes init)]) (by exact rfl) (by exact rfl) (names := [Str.ofString "function", Str.ofString "sequence", Str.ofString "initial"]) (fun s vs X r => ?_) rfl (by decide) (by decide) (by decide) (fun A L Rm => ?_)
  · obtain ⟨v, u, t, rfl, r1, r2, r3⟩ := r.three
    exact ⟨[(Str.ofString "function", v), (Str.ofString "sequence", u), (Str.ofString "initial", t)], binds_K X (T := 88) rfl (by rfl) rfl (by rfl) (by rfl), rfl, .cons r1 (.cons r2 (.cons r3 .nil))⟩
  refine SX.iter3 Rm.hh (fun P hP => EX.built (by rfl) (by rfl) (by rfl) hP) (by rfl) ?_
  walk_at "nm"
  refine ⟨_, rfl, fun I => S1.ite (TX.cmp ?_)⟩
  walk_at "nm"
  refine EX.glob (a := .raw _) (by rfl) (by rfl) (fun _ => .raw _) (OX2.isBytesRef ⟨_, rfl, ?_⟩)
  rw [if_neg (by decide)]
  refine SX.cons (S1.assign ?_ (by exact .inl rfl))
  walk_at "nm"
  refine SX.nil ⟨rfl, rfl, ?_⟩
  refine ForX.inv (RedI rows init f g μ) ?_ ?_ ⟨[], rows, rfl, rfl, .refl _, ⟨rfl, by simp [laid]; rfl, trivial⟩, rfl⟩
  · rintro v vs g' ρ' _ ⟨d, r, hv, hd, lg, hi, rfl⟩
    cases r with
    | nil => cases hv
    | cons row r =>
    simp only [List.map_cons, List.cons.injEq] at hv
    obtain ⟨rfl, rfl⟩ := hv
    have hi' := hi.setv' (x := Str.ofString "element") (v := .bytes row) rfl
    refine ⟨_, AsX.name (.inl (by rfl)), ?_⟩
    refine SX.of ?_ hi'
    refine SX.cons (S1.assign (EX.call (n := n) Rm ?_) (by exact .inl rfl))
    refine EX.name (a := .raw (.ref f)) (by rfl) (by rfl) ⟨_, rfl, fun B => Kpt.fn (lg _ _ ho) hfd, LX.cons ?_⟩
    walk_at "nm"
    refine LX.cons ?_
    walk_at "nm"
    refine LX.nil ((hf g' _ row lg (by rw [hd]; simp) ⟨d.length, by rw [hd]; simp⟩).withLe fun g'' a μ'' l q => ?_)
    obtain ⟨rfl, rfl⟩ := q
    refine SX.nil ⟨d ++ [row], r, rfl, by simp [hd], lg.trans l, ⟨rfl, ?_, trivial⟩, rfl⟩
    simp only [laid, List.map_append, List.flatten_append, List.map_cons, List.map_nil, List.flatten_cons, List.flatten_nil, List.append_nil, List.append_assoc]
    rfl
  · rintro g' ρ' _ ⟨d, r, hv, hd, lg, hi, rfl⟩
    have hr0 : r = [] := by cases r with | nil => rfl | cons b r => cases hv
    subst hr0
    rw [List.append_nil] at hd
    subst hd
    refine SX.of ?_ hi
    refine SX.cons (S1.ret ?_)
    walk_at "nm"
    exact hp g' lg
theorem laid_len : ∀ (rows : List (List UInt8)), (∀ r ∈ rows, IsRow r) → (laid [] rows).length ≤ 8 * rows.length
  | [], _ => by simp [laid]
  | x :: rows, h => by
    have ih := laid_len rows fun r hr => h r (.tail _ hr)
    have hx := (h x (.head _)).2
    have e : laid [] (x :: rows) = b64 x ++ laid [] rows := by simp [laid]
    rw [e, List.length_append, b64_len, List.length_cons]; walk_at "om"
theorem laid_CX {pc : Option Addr} {rows : List (List UInt8)} (hr : ∀ r ∈ rows, IsRow r) (hz : rows.length ≤ 5) (hp : ∀ g', Le g g' → P g' (.bytes (laid [] rows)) (some (.tab pc))) : CX w 6 (.ref 124) [.list (rows.map .bytes)] g (some (.tab pc)) P := by
  refine CX.top (n := 5) (ρ₀ := [(Str.ofString "rows", .list (rows.map .bytes))]) (by exact rfl) (by exact rfl) (bind1 (x := Str.ofString "rows") fun _ => rfl) rfl (by decide) (by decide) (by decide) (fun A L Rm => ?_)
  refine SX.cons (S1.ret (EX.call (n := 5) Rm ?_))
  walk_at "fn"
  refine LX.cons (EX.lam .laid rfl (fun B => ⟨_, _, _, _, _, _, _, _, _, B.K 123 _ (by exact rfl), rfl, rfl, rfl, rfl, rfl, rfl, rfl, rfl, by decide⟩) (by rfl) (by rfl) (by rfl) fun g₁ f pm cv ctv l₁ ho hcr => LX.cons ?_)
  walk_at "nm"
  refine LX.cons (EX.cbytes (LX.nil ?_))
  refine reduce_CX (n := 4) ho rfl (fun g₂ text row l₂ hrow ht => ?_) fun g₂ l₂ => hp g₂ (l₁.trans l₂)
  obtain ⟨i, rfl⟩ := ht
  have hR := hr row hrow
  have hb := laid_len (rows.take i) fun r h => hr r (List.mem_of_mem_take h)
  have hti : (rows.take i).length ≤ 5 := by rw [List.length_take]; walk_at "om"
  refine CX.lam (n := 3) (ρ₀ := [(Str.ofString "text", .bytes _), (Str.ofString "row", .bytes row)]) (l₂ _ _ ho) (hcr.keeps l₂) (bindR2 (x := Str.ofString "text") (y := Str.ofString "row") fun _ _ => rfl) rfl (by decide) (by decide) (by decide) fun A' L' Rm' => ?_
  refine EX.bin ?_
  walk_at "nm"
  refine EX.call (n := 3) Rm' ?_
  walk_at "fn"
  refine LX.cons ?_
  walk_at "nm"
  exact LX.nil (b64encode_CX hR.1 (by have := hR.2; walk_at "om") fun g₃ l₃ => OX2.addB (by rw [b64_len]; have := hR.2; walk_at "om") ⟨rfl, rfl⟩)
end
end Mine
set_option tactic.hygienic false
open PySem PySem.W PySem.Calls PyProof.Rows
set_option Elab.async false
set_option maxRecDepth 100000
set_option maxHeartbeats 4000000
set_option linter.unusedVariables false
set_option linter.unusedSimpArgs false
namespace Mine
theorem ty_object : typeOf (.type "object") = pure (.type "type") := by kernel_rfl
theorem ty_type : typeOf (.type "type") = pure (.type "type") := by kernel_rfl
theorem sub_type : isSubtype (.type "type") (.type "type") = pure true := by rw [isSubtype_type]; kernel_rfl
noncomputable def prepO : Obj := { cls := .type "builtin_function_or_method", data := .fields #[.builtin "type.__prepare__", .type "type"] }
theorem type_prep : typeOf (.builtin "type.__prepare__") = pure (.type "classmethod_descriptor") := by show builtinType _ = _; rw [builtinType_eq_fast]; kernel_rfl
theorem owner_prep : (kfb_private% "ownerAndName") "type.__prepare__" = ("type", "__prepare__") := by first | decide +kernel | kernel_rfl
theorem entry_prep : entryFor table "type.__prepare__" = some Builtin.«type.__prepare__» := entryFor_of_tree (by kernel_rfl)
theorem is_type_type : isType (.type "type") = pure true := rfl
section
variable {w : World} {M : Model} {A : Around} {E : Value → Shared → Prop} {s : Shared} {K : Frag}
theorem prep_run {P : Fin → Shared → Prop} (h : P (.done (.ret (.ref s.heap.objs.size))) { s with heap := s.heap.push prepO }) :
    wpAny M A (Builtin.«classmethod_descriptor.__get__» ⟨[.builtin "type.__prepare__", .none, .type "type"], []⟩) P E s := by
  unfold Builtin.«classmethod_descriptor.__get__»
  refine wpAny_bind (wpAny_of_eq (a := (.builtin "type.__prepare__", none, some (.type "type"))) (by first | rfl | kernel_rfl) ?_)
  simp only [owner_prep]
  refine wpAny_bind (wpAny_of_eq (a := .type "type") rfl ?_)
  refine wpAny_bind (wpAny_of_eq (a := true) is_type_type ?_)
  refine KFB.if_not rfl ?_
  refine wpAny_bind (wpAny_of_eq (a := true) sub_type ?_)
  refine KFB.if_not rfl ?_
  exact wpAny_bind (wpAny_newObj_type (wpAny_pure h))
theorem stub_type : opaqueClassAbove (.type "type") = pure none := by unfold opaqueClassAbove; dsimp only; rw [show Manifest.isStub "type" = false by decide +kernel]; rfl
theorem find_prep : findCls [] (.type "type") (.type "type") (PySem.Str.ofString "__prepare__") = some (.get (.builtin "classmethod_descriptor.__get__") (.builtin "type.__prepare__") .none (.type "type")) := by kernel_rfl
theorem in_nil (h : Heap) : Frag.In [] h := fun b o e => by cases e
theorem tga_nil : findIn [] (.type "type") "__getattribute__" = some (some (.builtin "type.__getattribute__")) := type_tga
theorem cls_ask {c mc : Value} {name : Str} {r : CFound} {Q : Option Value → Shared → Prop} {hook : Option Value} (X : K.In s.heap) (ho : Looks (model PR w) s.heap (opaqueClassAbove c) none) (ht : Looks (model PR w) s.heap (typeOf c) mc)
    (hga : findIn K mc "__getattribute__" = some (some (.builtin "type.__getattribute__"))) (hb : Looks (model PR w) s.heap (hookBefore mc) hook) (hi : subIn K mc (.type "type") = some true) (e : findCls K c mc name = some r)
    (h : wpAny (model PR w) A.in1 r.run (fun fin s' => match fin with | .done (.ret v) => wpAny (model PR w) A (handedOut v) (fun v s'' => Q (some v) s'') (fun _ _ => False) s' | _ => False) (fun _ _ => False) { s with toks := s.toks + 1 }) :
    wpAny (model PR w) A (getAttr? c name) Q E s := by
  refine wpAny_bind (wpAny_mkText ?_)
  unfold getAttrBy?
  refine wpAny_bind (wpAny_attempt (wpAny_holding (wpAny_bind (ht _ _ _ _ (fun _ _ e => e) (wpAny_bind (looks_findIn X hga _ _ _ _ (fun _ _ e => e) ?_))))))
  dsimp only
  rw [show (onTheHeap mc && Value.builtin "type.__getattribute__" == Value.builtin "object.__getattribute__") = false from by rw [show (Value.builtin "type.__getattribute__" == Value.builtin "object.__getattribute__") = false from by decide +kernel, Bool.and_false], if_neg (by decide)]
  refine wpAny_bind (hb _ _ _ _ (fun _ _ e => e) (wpAny_bind (wpAny_attempt (wpAny_holding ?_))))
  unfold callGetattribute
  rw [show (false && onTheHeap (Value.builtin "type.__getattribute__")) = false from rfl, if_neg (by decide)]
  unfold boundAndCalled
  rw [KF.slot_tga.bind]
  refine wpAny_bind (wpAny_pure ?_)
  show wpAny _ _ (call (.builtin "type.__getattribute__") [c, .str name s.toks]) _ _ _
  refine wpAny_call ?_
  refine codeAny_call_builtin KF.slot_tga.plain KF.entry_tga ?_
  refine @check_slot (model PR w) _ _ { s with toks := s.toks + 1 } "type.__getattribute__" "type" "__getattribute__" c [.str name s.toks] [] _ (by decide +kernel) (by decide +kernel) (ht.andThen (looks_subIn X hi)) (KF.args_tga c (.str name s.toks)) ?_
  refine tga_run (s := { s with toks := s.toks + 1 }) X ho ht e (wpAny_mono h (fun fin s' z => ?_) fun _ _ z => z.elim)
  rcases fin with (_ | _ | _ | _) | _ <;> first | exact z.elim | skip
  exact wpAny_mono z (fun v s'' q => wpAny_pure q) fun _ _ f => f.elim
theorem prep_get {Q : Option Value → Shared → Prop} (h : Q (some (.ref s.heap.objs.size)) { s with heap := s.heap.push prepO, toks := s.toks + 1 }) : wpAny (model PR w) A (getAttr? (.type "type") "__prepare__") Q E s := by
  have L0 : Looks (model PR w) s.heap (typeOf (.type "type")) (.type "type") := Looks.of_pure ty_type
  refine cls_ask (K := []) (in_nil _) (Looks.of_pure stub_type) L0 tga_nil (looks_hook (in_nil _) (r := none) (by rfl)) (by show subIn _ _ _ = _; rfl) find_prep ?_
  show wpAny _ _ (holding [.builtin "type.__prepare__"] (call (.builtin "classmethod_descriptor.__get__") [.builtin "type.__prepare__", .none, .type "type"]) >>= fun v => ret v) _ _ _
  exact wpAny_bind (wpAny_holding (wpAny_call_entry KFB.slot_get type_prep KFB.entry_get (prep_run ⟨_, rfl, wpAny_pure (wpAny_pure h)⟩) (KFB.args_get _ _ _)))
theorem check_prep {as : List Value} : checkBoundCall "type.__prepare__" ⟨.type "type" :: as, []⟩ = pure () := by first | kernel_rfl | rfl
theorem prep_call {x : Addr} {n b : Value} {Q : Value → Shared → Prop} (ho : s.heap.get? x = some prepO) (h : Q (.ref s.heap.objs.size) { s with heap := s.heap.push { cls := .type "dict", data := .dict #[] } }) : wpAny (model PR w) A (call (.ref x) [n, b] []) Q E s := by
  refine wpAny_call (codeAny_of_tree ?_)
  show wpAny _ A.in1 (callAny (.ref x) ⟨[n, b], []⟩) _ _ s
  simp only [callAny]
  refine wpAny_bind (wpAny_load ho ?_)
  simp only [prepO, show (Value.type "builtin_function_or_method" == Value.type "method" || Value.type "builtin_function_or_method" == Value.type "builtin_function_or_method" || Value.type "builtin_function_or_method" == Value.type "method-wrapper") = true by decide, if_true]
  refine KFB.if_so (by decide) ?_
  refine wpAny_bind (wpAny_of_eq (a := ()) check_prep ?_)
  refine wpAny_bind (wpAny_pure (wpAny_pure ?_))
  refine ⟨Code.quiet_builtin _ (by decide +kernel), codeAny_builtin entry_prep ?_⟩
  unfold Builtin.«type.__prepare__»
  exact wpAny_bind (wpAny_newObj_type (wpAny_pure h))
end
end Mine
set_option tactic.hygienic false
open PySem PySem.W PySem.Calls PyProof.Rows
set_option Elab.async false
set_option maxRecDepth 100000
set_option maxHeartbeats 4000000
set_option linter.unusedVariables false
set_option linter.unusedSimpArgs false
namespace Mine
noncomputable abbrev NL := List (Str × Value)
inductive Ents : List DictEntry → NL → Prop
  | nil : Ents [] []
  | cons (h : Int) (n : Str) (t : Tok) (v : Value) {es : List DictEntry} {l : NL} : Ents es l → Ents (⟨h, .str n t, v⟩ :: es) ((n, v) :: l)
noncomputable def NsL (h : Heap) (a : Addr) (l : NL) : Prop := ∃ es ep, h.get? a = some { cls := .type "dict", dict := none, data := .dict es ep, slots := #[] } ∧ Ents es.toList l
noncomputable def putL : NL → Str → Value → NL
  | [], n, v => [(n, v)]
  | (m, u) :: r, n, v => if m = n then (m, v) :: r else (m, u) :: putL r n v
noncomputable def delL : NL → Str → NL
  | [], _ => []
  | (m, u) :: r, n => if m = n then r else (m, u) :: delL r n
theorem isStr_str (m n : Str) (t : Tok) : (Value.str m t).isStr n = decide (m = n) := by
  show (m == n) = _
  by_cases h : m = n
  · subst h; simp
  · simp [h]
theorem Ents.find : ∀ {es : List DictEntry} {l : NL}, Ents es l → ∀ n, (es.find? (·.key.isStr n)).map (·.val) = l.lookup n
  | _, _, .nil, n => rfl
  | _, _, .cons h m t v r, n => by
    rw [List.find?_cons, List.lookup_cons]
    show Option.map _ (match (Value.str m t).isStr n with | true => _ | false => _) = _
    rw [isStr_str]
    by_cases e : m = n
    · subst e; simp
    · have e' : (n == m) = false := by simpa using fun q => e q.symm
      simp only [e, decide_false, e']
      exact r.find n
theorem Ents.strKeys {es : Array DictEntry} {l : NL} (r : Ents es.toList l) : StrKeys es := by
  intro e he
  have he' : e ∈ es.toList := by simpa using he
  generalize es.toList = ls at *
  induction r with
  | nil => cases he'
  | cons h n t v r ih =>
    rcases List.mem_cons.mp he' with rfl | he'
    · exact ⟨n, t, rfl⟩
    · exact ih he'
theorem NsL.ns {h : Heap} {a : Addr} {l : NL} (x : NsL h a l) : h.Ns a fun n => l.lookup n := by
  obtain ⟨es, ep, e, r⟩ := x
  refine ⟨_, es, ep, e, rfl, r.strKeys, fun n => ?_⟩
  unfold nsFind findBy
  show _ = l.lookup n
  rw [← r.find n]
  simp
theorem Ents.noRef {es : Array DictEntry} {l : NL} (r : Ents es.toList l) : es.any (·.refKey) = false := by
  rw [Array.any_eq_false']; intro e he; obtain ⟨n, t, h⟩ := r.strKeys e he; simp [DictEntry.refKey, h]
theorem Ents.idx : ∀ {es : List DictEntry} {l : NL}, Ents es l → ∀ n v, (match es.findIdx? (·.key.isStr n) with
    | some i => Ents (es.modify i fun e => { e with val := v }) (putL l n v) ∧ Ents (es.eraseIdx i) (delL l n) ∧ l.lookup n ≠ none
    | none => (∀ h t, Ents (es ++ [⟨h, .str n t, v⟩]) (putL l n v)) ∧ delL l n = l ∧ l.lookup n = none)
  | _, _, .nil, n, v => ⟨fun h t => .cons h n t v .nil, rfl, rfl⟩
  | _, _, .cons h m t u r, n, v => by
    have ih := r.idx n v
    rw [List.findIdx?_cons]
    show match (if (Value.str m t).isStr n = true then some 0 else _) with | some i => _ | none => _
    rw [isStr_str]
    by_cases e : m = n
    · subst e
      simp only [decide_true, if_true, putL, delL, List.lookup_cons, beq_self_eq_true]
      exact ⟨.cons h m t v r, r, nofun⟩
    · have e' : (n == m) = false := by simpa using fun q => e q.symm
      simp only [e, decide_false, Bool.false_eq_true, if_false]
      cases q : List.findIdx? (fun x : DictEntry => x.key.isStr n) _ with
      | none =>
        rw [q] at ih
        simp only [Option.map_none, putL, delL, e, if_false, List.lookup_cons, e']
        exact ⟨fun h' t' => .cons h m t u (ih.1 h' t'), by rw [ih.2.1], ih.2.2⟩
      | some i =>
        rw [q] at ih
        simp only [Option.map_some, putL, delL, e, if_false, List.lookup_cons, e']
        exact ⟨.cons h m t u ih.1, .cons h m t u ih.2.1, ih.2.2⟩
section
variable {M : Model} {A : Around} {E : Value → Shared → Prop} {s : Shared} {a : Addr} {l : NL}
theorem nsGetL {n : Str} {Q : Option Value → Shared → Prop} (x : NsL s.heap a l) (h : Q (l.lookup n) s) : wpAny M A (nsGet a n) Q E s := wpAny_nsGet x.ns h
theorem nsSetL {n : Str} {v : Value} {Q : Unit → Shared → Prop} (x : NsL s.heap a l) (h : ∀ h', NsL h' a (putL l n v) → Heap.SameBut a s.heap h' → Q () { s with heap := h', toks := s.toks + 1 }) : wpAny M A (nsSet a n v) Q E s := by
  obtain ⟨es, ep, ho, r⟩ := x
  unfold nsSet
  refine wpAny_bind ?_
  unfold strHash
  refine wpAny_bind (wpAny_askSetting (wpAny_pure ?_))
  refine wpAny_bind (wpAny_mkText ?_)
  refine wpAny_bind (wpAny_loadPart ho ?_)
  dsimp only
  rw [aRefKeyMayBeTheName_at, r.noRef, Bool.and_false, if_neg Bool.false_ne_true]
  refine wpAny_updatePart ho (h _ ?_ (Heap.SameBut.update ..))
  have ih := r.idx n v
  cases hi : es.findIdx? (·.key.isStr n) with
  | some i =>
    have hi' : es.toList.findIdx? (·.key.isStr n) = some i := by obtain ⟨es⟩ := es; simpa using hi
    rw [hi'] at ih
    refine ⟨es.modify i fun e => { e with val := v }, ep, Heap.get?_update_self _ ho (by simp only [Obj.putName_eq, Obj.putNameByArray, hi]; rfl) |>.trans (by simp only [Obj.putName_eq, Obj.putNameByArray, hi]), by simpa using ih.1⟩
  | none =>
    have hi' : es.toList.findIdx? (·.key.isStr n) = none := by obtain ⟨es⟩ := es; simpa using hi
    rw [hi'] at ih
    refine ⟨es.push _, ep + 1, Heap.get?_update_self _ ho (by simp only [Obj.putName_eq, Obj.putNameByArray, hi]; rfl) |>.trans (by simp only [Obj.putName_eq, Obj.putNameByArray, hi]; rfl), by rw [Array.toList_push]; exact ih.1 _ _⟩
theorem nsDelL {n : Str} {Q : Bool → Shared → Prop} (x : NsL s.heap a l) (h : ∀ h', NsL h' a (delL l n) → Heap.SameBut a s.heap h' → Q (l.lookup n).isSome { s with heap := h' }) : wpAny M A (nsDel a n) Q E s := by
  obtain ⟨es, ep, ho, r⟩ := id x
  have ih := r.idx n .none
  have hsome : (l.lookup n).isSome = es.any (·.key.isStr n) := by
    rw [← r.find n, Option.isSome_map]
    rw [Bool.eq_iff_iff]; simp only [List.find?_isSome, Array.any_eq_true]
    constructor
    · rintro ⟨e, he, hp⟩
      obtain ⟨i, hi, rfl⟩ := List.getElem_of_mem he
      exact ⟨i, by simpa using hi, by simpa using hp⟩
    · rintro ⟨i, hi, hp⟩; exact ⟨es[i], by simp, hp⟩
  unfold nsDel
  refine wpAny_bind (wpAny_loadPart ho ?_)
  rw [nsHas_eq]
  unfold nsHasByArray
  dsimp only
  rw [← hsome, r.noRef]
  cases hi : es.findIdx? (·.key.isStr n) with
  | some i =>
    have hi' : es.toList.findIdx? (·.key.isStr n) = some i := by obtain ⟨es⟩ := es; simpa using hi
    rw [hi'] at ih
    have hs : (l.lookup n).isSome = true := by
      cases q : l.lookup n with
      | none => exact absurd q ih.2.2
      | some _ => rfl
    rw [hs] at h ⊢
    simp only [if_true]
    refine wpAny_bind (wpAny_pure ?_)
    rw [if_pos rfl]
    refine wpAny_bind (wpAny_updatePart ho (wpAny_pure (h _ ?_ (Heap.SameBut.update ..))))
    have hb : i < es.size := (Array.findIdx?_eq_some_iff_findIdx_eq.mp hi).1
    refine ⟨es.eraseIdxIfInBounds i, ep + 1, Heap.get?_update_self _ ho (by simp only [Obj.dropName_eq, Obj.dropNameByArray, hi]; rfl) |>.trans (by simp only [Obj.dropName_eq, Obj.dropNameByArray, hi]), ?_⟩
    rw [Array.toList_eraseIdxIfInBounds]
    exact ih.2.1
  | none =>
    have hi' : es.toList.findIdx? (·.key.isStr n) = none := by obtain ⟨es⟩ := es; simpa using hi
    rw [hi'] at ih
    have hs : (l.lookup n).isSome = false := by rw [ih.2.2]; rfl
    rw [hs] at h ⊢
    simp only [Bool.false_eq_true, if_false]
    refine wpAny_bind (wpAny_pure ?_)
    rw [if_neg Bool.false_ne_true]
    exact wpAny_pure (h s.heap (by rw [ih.2.1]; exact x) (.refl ..))
end
end Mine
set_option tactic.hygienic false
open PySem PySem.W PySem.Calls PyProof.Rows
set_option Elab.async false
set_option maxRecDepth 100000
set_option maxHeartbeats 4000000
set_option linter.unusedVariables false
set_option linter.unusedSimpArgs false
namespace Mine
theorem f_turned : Builtin.notOverATurnedClass [.type "object"] = pure () := by kernel_rfl
theorem f_best : Builtin.Slots.bestBase [.type "object"] = pure (.type "object") := by kernel_rfl
theorem f_names : Builtin.Slots.slotNamesOf (.type "object") = pure [] := by kernel_rfl
theorem f_dict : Builtin.Slots.givesDict (.type "object") = pure false := by kernel_rfl
theorem f_var : Builtin.Slots.varSize (.type "object") = pure false := by kernel_rfl
theorem f_lin : Builtin.linearize [.type "object"] mroOf = pure [.type "object"] := by kernel_rfl
theorem f_ext : Builtin.extendedBase [.type "object"] = pure (.type "object") := by kernel_rfl
theorem f_lookmro : typeLookup (.type "type") "mro" = pure (some (.builtin "type.mro")) := by rw [typeLookup_type, builtinLookup_eq_fast]; kernel_rfl
theorem f_looknew : typeLookup (.type "object") "__new__" = pure (some (.builtin "object.__new__")) := by rw [typeLookup_type, builtinLookup_eq_fast]; kernel_rfl
theorem f_lookweak : typeLookup (.type "object") "__weakref__" = pure none := by rw [typeLookup_type, builtinLookup_eq_fast]; kernel_rfl
theorem f_tnew : typeLookup (.type "type") "__new__" = pure (some (.builtin "type.__new__")) := by rw [typeLookup_type, builtinLookup_eq_fast]; kernel_rfl
theorem f_weak : Builtin.Slots.givesWeak (.type "object") = pure false := by kernel_rfl
theorem f_made : Bind.madeBy (.type "object") = pure (some "object.__new__") := by kernel_rfl
theorem f_madet : Bind.madeBy (.type "type") = pure (some "type.__new__") := by kernel_rfl
theorem f_hook : Builtin.mroHook? (.type "type") = pure none := by kernel_rfl
theorem f_start : Builtin.noteSubclassOfBuiltin "object" a = pure () := by kernel_rfl
theorem f_check (a b c : Value) : checkTypeCall "type" ⟨[a, b, c], []⟩ = pure () := by kernel_rfl
end Mine
set_option tactic.hygienic false
open PySem PySem.W PySem.Calls PyProof.Rows
set_option Elab.async false
set_option maxRecDepth 100000
set_option maxHeartbeats 4000000
set_option linter.unusedVariables false
set_option linter.unusedSimpArgs false
namespace Mine
section
variable {w : World} {M : Model} {A : Around} {E : Value → Shared → Prop} {s : Shared}
theorem forIn_one {α β : Type} {x : α} {b : β} {f : α → β → Sem (ForInStep β)} {Q : β → Shared → Prop} (h : wpAny M A (f x b) (fun r s' => match r with | .yield b' => Q b' s' | .done b' => Q b' s') E s) : wpAny M A (forIn [x] b f) Q E s := by
  rw [List.forIn_cons]
  refine wpAny_bind (wpAny_mono h (fun r s' h' => ?_) fun _ _ e => e)
  cases r with
  | done b' => exact wpAny_pure h'
  | yield b' => exact (wpAny_pure h' : wpAny M A (forIn [] b' f) Q E s')
theorem forIn_arr1 {α β : Type} {x : α} {b : β} {f : α → β → Sem (ForInStep β)} {Q : β → Shared → Prop} (h : wpAny M A (f x b) (fun r s' => match r with | .yield b' => Q b' s' | .done b' => Q b' s') E s) : wpAny M A (forIn #[x] b f) Q E s := by
  rw [← Array.forIn_toList]
  exact forIn_one h
noncomputable abbrev sObj : Str := Str.ofString "obj"
theorem slots_read {sl : Addr} {es : Array DictEntry} {l : NL} {to : Tok} {Q : Builtin.Slots.Plan → Shared → Prop} (he : Ents es.toList l) (hsl : l.lookup (Str.ofString "__slots__") = some (.ref sl)) (hL : s.heap.IsList sl #[.str sObj to]) (hn : l.lookup sObj = none)
    (hQ : ∀ h', Le s.heap h' → Q { names := [sObj], dict := false, weak := false, inherited := [] } { s with heap := h' }) : wpAny (model PR w) A (Builtin.Slots.read (Str.ofString "K") [.type "object"] es) Q E s := by
  have hf := he.find (Str.ofString "__slots__")
  rw [hsl] at hf
  obtain ⟨e, he1, he2⟩ := Option.map_eq_some_iff.mp hf
  have hf' : es.find? (·.key.isStr (Str.ofString "__slots__")) = some e := by rw [← he1]; simp
  have hany : es.any (·.key.isStr sObj) = false := by
    have := he.find sObj
    rw [hn, Option.map_eq_none_iff] at this
    rw [Array.any_eq_false']
    intro x hx
    have := List.find?_eq_none.mp this x (by simpa using hx)
    simpa using this
  unfold Builtin.Slots.read
  refine wpAny_bind (wpAny_of_eq f_best ?_)
  refine wpAny_bind (wpAny_of_eq f_names ?_)
  refine wpAny_bind (wpAny_of_eq f_dict ?_)
  refine wpAny_bind (wpAny_of_eq f_weak ?_)
  refine wpAny_bind (wpAny_of_eq f_var ?_)
  rw [hf']
  dsimp only
  refine wpAny_bind (wpAny_rule ?_)
  rw [he2]
  obtain ⟨oL, hoL, hcL, nL, hdL⟩ := id hL
  refine wpAny_bind (m := asStr? (.ref sl)) ?_
  unfold asStr?
  refine wpAny_bind (wpAny_load hoL ?_)
  rw [hdL]
  refine wpAny_pure ?_
  rw [if_neg (by decide)]
  refine wpAny_bind (collect_list (vs := [.str sObj to]) hL ?_ (by rw [sizeLine_eq]; show 1 ≤ _; walk_at "om"))
  refine KFB.if_so rfl ?_
  refine wpAny_bind (wpAny_of_eq f_var ?_)
  refine KFB.if_not rfl ?_
  refine wpAny_bind (forIn_one (wpAny_of_eq (a := .yield (false, false, #[sObj], [])) (by kernel_rfl) ?_))
  dsimp only
  refine wpAny_bind (forIn_arr1 ?_)
  rw [show Builtin.Slots.mangle (Str.ofString "K") sObj = sObj by decide +kernel]
  refine KFB.if_not (by rw [hany]; rfl) ?_
  refine KFB.if_not (by decide +kernel) ?_
  refine wpAny_pure ?_
  dsimp only
  refine wpAny_bind (forIn_one (wpAny_of_eq (a := .yield (false, false)) (by kernel_rfl) ?_))
  dsimp only
  refine wpAny_pure ?_
  have := hQ ((s.heap.push (seqObj "list" #[] 0)).update s.heap.objs.size (Obj.mapSeq (· ++ [Value.str sObj to].toArray))) (fun b o e => by
    rw [Heap.get?_update_ne _ _ _ _ (Nat.ne_of_lt (Heap.lt_size e))]
    exact Heap.get?_push_of_some _ e)
  exact this
noncomputable abbrev clsO (cd : ClassData) (sl : Array (Option Value)) : Obj := { cls := .type "type", dict := none, data := .cls cd, slots := sl }
noncomputable abbrev memO (a : Addr) (t : Tok) : Obj := { cls := .type "member_descriptor", data := .fields #[.str sObj t, .ref a, .builtin "proto.slot", .builtin "proto.slot#set", .int 0 0] }
theorem updCls {a : Addr} {cd : ClassData} {sl : Array (Option Value)} {f : ClassData → ClassData} {Q : Unit → Shared → Prop} (ho : s.heap.get? a = some (clsO cd sl)) (hp : (f cd).subclasses.length ≤ 1000 ∧ (f cd).slotNames.length ≤ 1000)
    (h : ∀ h', h'.get? a = some (clsO (f cd) sl) → Heap.SameBut a s.heap h' → Q () { s with heap := h' }) : wpAny M A (updateCls a f) Q E s := by
  unfold updateCls
  refine wpAny_bind (wpAny_load ho ?_)
  have e : Obj.mapCls f (clsO cd sl) = clsO (f cd) sl := rfl
  have hn : (s.heap.update a (Obj.mapCls f)).get? a = some (clsO (f cd) sl) := by rw [Heap.get?_update_self _ ho (by rw [e]; rfl), e]
  refine wpAny_bind (wpAny_update ho ?_)
  exact wpAny_lookBehind hn (by show (if _ then some _ else none) = none; rw [if_neg]; simp only [Bool.or_eq_true, decide_eq_true_eq, sizeLine_eq]; walk_at "om") (h _ hn (Heap.SameBut.update ..))
theorem setSl {a : Addr} {cd : ClassData} {sl : Array (Option Value)} {i : Nat} {v : Option Value} {Q : Unit → Shared → Prop} (ho : s.heap.get? a = some (clsO cd sl)) (hi : i < 100)
    (h : ∀ h', h'.get? a = some (clsO cd ((sl ++ Array.replicate (i + 1 - sl.size) none).setIfInBounds i v)) → Heap.SameBut a s.heap h' → Q () { s with heap := h' }) : wpAny M A (setSlotAt a i v) Q E s := by
  unfold setSlotAt
  rw [if_neg (by rw [sizeLine_eq]; walk_at "om")]
  refine wpAny_updatePart ho (h _ ?_ (Heap.SameBut.update ..))
  rw [Heap.get?_update_self _ ho (by rfl)]
theorem Ents.len : ∀ {es : List DictEntry} {l : NL}, Ents es l → es.length = l.length
  | _, _, .nil => rfl
  | _, _, .cons _ _ _ _ r => by simp [r.len]
theorem nsSetV {a : Addr} {l : NL} {n : Str} {v : Value} {Q : Unit → Shared → Prop} (x : NsL s.heap a l) (hz : l.length ≤ 1000) (h : ∀ h', NsL h' a (putL l n v) → Heap.SameBut a s.heap h' → Q () { s with heap := h', toks := s.toks + 1 }) : wpAny M A (nsSetByValue a n v) Q E s := by
  obtain ⟨es, ep, ho, r⟩ := id x
  have hl := r.len
  rw [Array.length_toList] at hl
  unfold nsSetByValue
  refine wpAny_bind (wpAny_loadPart ho ?_)
  dsimp only
  refine KFB.if_not (by rw [Bool.and_eq_false_iff]; left; rw [decide_eq_false_iff_not, sizeLine_eq]; walk_at "om") ?_
  exact nsSetL x h
theorem slots_install {a D : Addr} {cd : ClassData} {sl : Array (Option Value)} {l : NL} {Q : Unit → Shared → Prop} (ho : s.heap.get? a = some (clsO cd sl)) (hD : NsL s.heap D l) (hl : l.lookup sObj = none) (haD : a ≠ D) (hz : l.length ≤ 1000) (hsub : cd.subclasses = [])
    (hQ : ∀ md t h' tk, h'.get? a = some (clsO { cd with hasDict := false, slotNames := [sObj] } sl) → NsL h' D (putL l sObj (.ref md)) → h'.get? md = some (memO a t) → s.heap.get? md = none → (∀ b o, b ≠ a → b ≠ D → s.heap.get? b = some o → h'.get? b = some o) → Q () { s with heap := h', toks := tk }) :
    wpAny (model PR w) A (Builtin.Slots.install (.ref a) D [.type "object"] { names := [sObj], dict := false, weak := false, inherited := [] }) Q E s := by
  unfold Builtin.Slots.install
  dsimp only
  refine wpAny_bind (forIn_one (wpAny_bind (nsGetL hD ?_)))
  rw [hl]
  refine KFB.if_so rfl ?_
  refine wpAny_bind (wpAny_mkStr ?_)
  refine wpAny_bind (wpAny_newObj_type ?_)
  have kp₁ : Le s.heap (s.heap.push (memO a s.toks)) := le_push _ _
  have ho₁ := kp₁ _ _ ho
  obtain ⟨es, ep, eD, rD⟩ := id hD
  have hD₁ : NsL (s.heap.push (memO a s.toks)) D l := ⟨es, ep, kp₁ _ _ eD, rD⟩
  refine wpAny_bind (nsSetV (s := { s with heap := s.heap.push (memO a s.toks), toks := s.toks + 1 }) hD₁ hz fun h₂ hD₂ hs₂ => ?_)
  refine wpAny_pure ?_
  dsimp only
  refine wpAny_bind (forIn_one (wpAny_bind (wpAny_of_eq f_dict ?_)))
  refine KFB.if_not rfl ?_
  refine wpAny_pure ?_
  dsimp only
  rw [if_neg (by rw [sizeLine_eq]; decide)]
  have hmd : (s.heap.push (memO a s.toks)).get? s.heap.objs.size = some (memO a s.toks) := Heap.get?_push_size _ rfl
  have hne : ∀ b o, s.heap.get? b = some o → s.heap.objs.size ≠ b := fun b o e => Nat.ne_of_gt (Heap.lt_size e)
  refine updCls (s := { s with heap := h₂, toks := s.toks + 1 + 1 }) ((hs₂.2 a haD).trans ho₁) ⟨by dsimp only; rw [hsub]; decide, by show 1 ≤ _; walk_at "om"⟩ fun h₃ ho₃ hs₃ => ?_
  obtain ⟨es₂, ep₂, eD₂, rD₂⟩ := hD₂
  refine hQ s.heap.objs.size s.toks h₃ _ ho₃ ⟨es₂, ep₂, (hs₃.2 D haD.symm).trans eD₂, rD₂⟩ ((hs₃.2 _ (hne a _ ho)).trans ((hs₂.2 _ (hne D _ eD)).trans hmd)) (fresh_size _) fun b o h1 h2 e => (hs₃.2 b h1).trans ((hs₂.2 b h2).trans (kp₁ b o e))
end
end Mine
set_option tactic.hygienic false
open PySem PySem.W PySem.Calls PyProof.Rows
set_option Elab.async false
set_option maxRecDepth 100000
set_option maxHeartbeats 4000000
set_option linter.unusedVariables false
set_option linter.unusedSimpArgs false
namespace Mine
section
variable {w : World} {M : Model} {A : Around} {E : Value → Shared → Prop} {s : Shared}
theorem clsData {a : Addr} {cd : ClassData} {sl : Array (Option Value)} {Q : ClassData → Shared → Prop} (ho : s.heap.get? a = some (clsO cd sl)) (h : Q cd s) : wpAny M A (classData a) Q E s := by
  unfold classData
  exact wpAny_bind (wpAny_load ho (wpAny_pure h))
theorem clsMro {a : Addr} {cd : ClassData} {sl : Array (Option Value)} {Q : List Value → Shared → Prop} (ho : s.heap.get? a = some (clsO cd sl)) (h : Q cd.mro s) : wpAny M A (mroOf (.ref a)) Q E s := by
  unfold mroOf
  show wpAny M A (classData a >>= fun c => pure c.mro) Q E s
  exact wpAny_bind (clsData ho (wpAny_pure h))
theorem clsSub {a : Addr} {cd : ClassData} {sl : Array (Option Value)} {b : Value} {Q : Bool → Shared → Prop} (ho : s.heap.get? a = some (clsO cd sl)) (hm : cd.mro.isEmpty = false) (h : Q (cd.mro.contains b) s) : wpAny M A (isSubtype (.ref a) b) Q E s := by
  unfold isSubtype
  refine wpAny_bind (clsMro ho ?_)
  dsimp only
  refine KFB.if_not hm ?_
  exact wpAny_pure h
theorem clsIsType {a : Addr} {cd : ClassData} {sl : Array (Option Value)} {Q : Bool → Shared → Prop} (ho : s.heap.get? a = some (clsO cd sl)) (h : Q true s) : wpAny M A (isType (.ref a)) Q E s := by
  obtain ⟨hp, g, d, t, os⟩ := s
  exact ks_wpAny_isType_cls ho rfl h
end
end Mine
set_option tactic.hygienic false
open PySem PySem.W PySem.Calls PyProof.Rows
set_option Elab.async false
set_option maxRecDepth 100000
set_option maxHeartbeats 4000000
set_option linter.unusedVariables false
set_option linter.unusedSimpArgs false
namespace Mine
section
variable {w : World} {M : Model} {A : Around} {E : Value → Shared → Prop} {s : Shared}
noncomputable abbrev supO (a : Addr) : Obj := { cls := .type "super", dict := none, data := .fields #[.ref a, .ref a, .ref a], slots := #[] }
theorem super_call {a : Addr} {cd : ClassData} {sl : Array (Option Value)} {Q : Value → Shared → Prop} (ho : s.heap.get? a = some (clsO cd sl)) (hm : cd.mro = [.ref a, .type "object"])
    (hq : ∀ h', h'.get? s.heap.objs.size = some (supO a) → Le s.heap h' → Q (.ref s.heap.objs.size) { s with heap := h' }) :
    wpAny (model PR w) A (call (.type "super") [.ref a, .ref a]) Q E s := by
  obtain ⟨h, g, d, t, os⟩ := s
  refine ks_callType_codesW (Q₁ := fun obj s₁ => obj = .ref h.objs.size ∧ s₁ = ⟨h.push { cls := .type "super", data := .fields #[.none, .none, .none] }, g, d, t, os⟩) F.ks_called_super (ks_wpAny_checkTypeCall_super ho rfl) F.ks_entry_super_init
    (ks_code_super_new _ _ ⟨rfl, rfl⟩) fun obj s₁ h₁ => ?_
  obtain ⟨rfl, rfl⟩ := h₁
  have up : ∀ y o, h.get? y = some o → (h.push { cls := .type "super", data := .fields #[.none, .none, .none] }).get? y = some o := fun y o e => Heap.get?_push_of_some _ e
  have hso : (h.push { cls := .type "super", data := .fields #[.none, .none, .none] }).get? h.objs.size = some { cls := .type "super", dict := none, data := .fields #[.none, .none, .none], slots := #[] } := Heap.get?_push_at rfl rfl
  have hD' := up _ _ ho
  refine ⟨⟨_, hso, rfl⟩, F.ks_initArgs_super _ _ _, ?_⟩
  unfold Builtin.«super.__init__» noKeywords
  refine wpAny_bind (wpAny_pure ?_)
  refine wpAny_bind (wpAny_pure ?_)
  refine wpAny_bind (clsIsType hD' ?_)
  refine KFB.if_not rfl ?_
  refine KFB.if_not (by rfl) ?_
  refine wpAny_bind (wpAny_bind (clsIsType hD' ?_))
  refine KFB.if_so rfl ?_
  refine wpAny_bind (clsSub hD' (by rw [hm]; rfl) ?_)
  rw [hm]
  refine KFB.if_so (by simp) ?_
  refine wpAny_pure ?_
  refine ks_wpAny_super_set3 hso fun h' e k => ?_
  exact ⟨rfl, hq h' e fun y o ey => k y o (Nat.ne_of_lt (Heap.lt_size ey)) (up y o ey)⟩
end
end Mine
set_option tactic.hygienic false
open PySem PySem.W PySem.Calls PyProof.Rows
set_option Elab.async false
set_option maxRecDepth 100000
set_option maxHeartbeats 4000000
set_option linter.unusedVariables false
set_option linter.unusedSimpArgs false
namespace Mine
section
variable {w : World} {M : Model} {A : Around} {E : Value → Shared → Prop} {s : Shared}
noncomputable abbrev bisO (a : Addr) : Obj := { cls := .type "builtin_function_or_method", data := .fields #[.builtin "object.__init_subclass__", .ref a] }
theorem type_bis : typeOf (.builtin "object.__init_subclass__") = pure (.type "classmethod_descriptor") := by show builtinType _ = _; rw [builtinType_eq_fast]; kernel_rfl
theorem owner_bis : (kfb_private% "ownerAndName") "object.__init_subclass__" = ("object", "__init_subclass__") := by first | decide +kernel | kernel_rfl
theorem entry_bis : entryFor table "object.__init_subclass__" = some Builtin.«object.__init_subclass__» := entryFor_of_tree (by kernel_rfl)
theorem own_bis : classOwn (.type "object") (Str.ofString "__init_subclass__") = pure (some (.builtin "object.__init_subclass__")) := by kernel_rfl
theorem bis_run {a : Addr} {cd : ClassData} {sl : Array (Option Value)} {P : Fin → Shared → Prop} (ho : s.heap.get? a = some (clsO cd sl)) (hm : cd.mro = [.ref a, .type "object"])
    (h : P (.done (.ret (.ref s.heap.objs.size))) { s with heap := s.heap.push (bisO a) }) :
    wpAny M A (Builtin.«classmethod_descriptor.__get__» ⟨[.builtin "object.__init_subclass__", .none, .ref a], []⟩) P E s := by
  unfold Builtin.«classmethod_descriptor.__get__»
  refine wpAny_bind (wpAny_of_eq (a := (.builtin "object.__init_subclass__", none, some (.ref a))) (by first | rfl | kernel_rfl) ?_)
  simp only [owner_bis]
  refine wpAny_bind (wpAny_of_eq (a := .ref a) rfl ?_)
  refine wpAny_bind (clsIsType ho ?_)
  refine KFB.if_not rfl ?_
  refine wpAny_bind (clsSub ho (by rw [hm]; rfl) ?_)
  rw [hm]
  refine KFB.if_not (by simp) ?_
  exact wpAny_bind (wpAny_newObj_type (wpAny_pure h))
theorem super_ga {a so : Addr} {cd : ClassData} {sl : Array (Option Value)} {tk : Tok} {P : Fin → Shared → Prop} (ho : s.heap.get? a = some (clsO cd sl)) (hm : cd.mro = [.ref a, .type "object"]) (hso : s.heap.get? so = some (supO a))
    (hno : Looks (model PR w) s.heap (opaqueClassAbove (.ref a)) none) (h : P (.done (.ret (.ref s.heap.objs.size))) { s with heap := s.heap.push (bisO a) }) :
    wpAny (model PR w) A (Builtin.«super.__getattribute__» ⟨[.ref so, .str (Str.ofString "__init_subclass__") tk], []⟩) P E s := by
  obtain ⟨hp, g, d, t, os⟩ := s
  have hdt : (supO a).data = .fields #[.ref a, .ref a, .ref a] := rfl
  have f0 : (#[.ref a, .ref a, .ref a] : Array Value)[0]? = some (.ref a) := rfl
  have f1 : (#[.ref a, .ref a, .ref a] : Array Value)[1]? = some (.ref a) := rfl
  have f2 : (#[.ref a, .ref a, .ref a] : Array Value)[2]? = some (.ref a) := rfl
  unfold Builtin.«super.__getattribute__»
  refine wpAny_bind (wpAny_of_eq (a := some (Str.ofString "__init_subclass__")) rfl ?_)
  refine KFB.if_not rfl ?_
  refine wpAny_bind (wpAny_of_eq (a := some (Str.ofString "__init_subclass__")) rfl ?_)
  refine wpAny_bind (m := field (.ref so) 0) (wpAny_field hso hdt f0 ?_)
  refine wpAny_bind (wpAny_field hso hdt f1 ?_)
  refine wpAny_bind (wpAny_field hso hdt f2 ?_)
  refine KFB.if_not (by rfl) ?_
  refine wpAny_bind (ks_wpAny_notOpaque hno ?_)
  refine KFB.if_not (by rfl) ?_
  refine wpAny_bind (clsMro ho ?_)
  rw [hm]
  refine wpAny_bind (m := forIn (([.ref a, .type "object"] : List Value).dropWhile (fun x => x != .ref a) |>.drop 1) _ _) ?_
  rw [show (([.ref a, .type "object"] : List Value).dropWhile (fun x => x != .ref a) |>.drop 1) = [.type "object"] by simp]
  refine forIn_one (wpAny_bind (wpAny_of_eq own_bis ?_))
  refine wpAny_bind (wpAny_of_eq type_bis ?_)
  refine wpAny_bind (wpAny_of_eq KFB.slot_get.lookup ?_)
  refine wpAny_bind ?_
  rw [beq_self_eq_true, if_pos rfl]
  refine wpAny_holding (wpAny_call_entry KFB.slot_get type_bis KFB.entry_get (bis_run ho hm ⟨_, rfl, ?_⟩) (KFB.args_get _ _ _))
  exact wpAny_bind (wpAny_pure (wpAny_pure (wpAny_pure h)))
theorem super_get {a so : Addr} {cd : ClassData} {sl : Array (Option Value)} {Q : Value → Shared → Prop} (ho : s.heap.get? a = some (clsO cd sl)) (hm : cd.mro = [.ref a, .type "object"]) (hso : s.heap.get? so = some (supO a))
    (hno : Looks (model PR w) s.heap (opaqueClassAbove (.ref a)) none) (h : Q (.ref s.heap.objs.size) { s with heap := s.heap.push (bisO a), toks := s.toks + 1 }) :
    wpAny (model PR w) A (getAttr (.ref so) "__init_subclass__") Q E s := by
  obtain ⟨hp, g, d, t, os⟩ := s
  have hlk := F.ks_slot_super_ga.lookup
  have hT : ∀ t', (⟨hp, g, d, t', os⟩ : Shared).TypeIs (.ref so) "super" := fun _ => ⟨_, hso, rfl⟩
  unfold getAttr getAttrBy
  refine wpAny_bind (wpAny_mkText (wpAny_holding (wpAny_bind (wpAny_typeOf (hT _) (wpAny_bind (wpAny_of_eq hlk ?_))))))
  show wpAny _ _ (getAttrByItsOwn (.ref so) (.str (Str.ofString "__init_subclass__") t) (.type "super") (.builtin "super.__getattribute__") true false) _ _ _
  unfold getAttrByItsOwn hookBefore callGetattribute boundAndCalled
  refine wpAny_bind (wpAny_of_eq (show (if onTheHeap (.type "super") then typeLookup (.type "super") "__getattr__" else pure none) = pure none from rfl) ?_)
  refine wpAny_bind (wpAny_attempt (wpAny_holding ?_))
  show wpAny _ _ (bindSpecial (.builtin "super.__getattribute__") (.ref so) >>= _) _ _ _
  refine wpAny_bind (wpAny_of_eq (F.ks_slot_super_ga.bind _) ?_)
  refine wpAny_mono (Q := fun v s' => v = .ref hp.objs.size ∧ s' = ⟨hp.push (bisO a), g, d, t + 1, os⟩) (E := fun _ _ => False)
    (wpAny_call_entry F.ks_slot_super_ga (hT _) F.ks_entry_super_ga (super_ga ho hm hso hno ⟨_, rfl, rfl, rfl⟩) (F.ks_gaArgs_super _ _)) (fun v s' hv => ?_) fun _ _ z => z.elim
  obtain ⟨rfl, rfl⟩ := hv
  exact wpAny_pure h
noncomputable def sigB : Manifest.Signature := (Manifest.signature? "object.__init_subclass__").get (by decide +kernel)
theorem sigB_eq : Manifest.signature? "object.__init_subclass__" = some sigB := (Option.some_get _).symm
theorem kind_bis : builtinKind "object.__init_subclass__" = some .classMethod := by decide +kernel
noncomputable abbrev qnK : Str := Str.ofString "cmp_to_key.<locals>.K"
theorem chk_bis (a : Addr) : Bind.checkArgs "object.__init_subclass__" { sigB with full := s!"{qnK.toString}.{Bind.lastOf "object.__init_subclass__"}" } ⟨[.ref a], []⟩ = pure () := by kernel_rfl
theorem var_bis : Manifest.varargsMethods.contains "object.__init_subclass__" = false := by decide +kernel
theorem typeCls {a : Addr} {cd : ClassData} {sl : Array (Option Value)} {Q : Value → Shared → Prop} (ho : s.heap.get? a = some (clsO cd sl)) (h : Q (.type "type") s) : wpAny M A (typeOf (.ref a)) Q E s :=
  wpAny_typeOf ⟨_, ho, rfl⟩ h
theorem check_bis {a : Addr} {cd : ClassData} {sl : Array (Option Value)} {Q : Unit → Shared → Prop} (ho : s.heap.get? a = some (clsO cd sl)) (hqn : cd.qualname = qnK) (h : Q () s) : wpAny M A (checkBoundCall "object.__init_subclass__" ⟨[.ref a], []⟩) Q E s := by
  unfold checkBoundCall
  rw [sigB_eq, kind_bis]
  dsimp only
  refine KFB.if_not (by decide) ?_
  refine wpAny_bind (wpAny_bind (typeCls ho (wpAny_of_eq (a := false) (by rw [isSubtype_type]; kernel_rfl) ?_)))
  rw [var_bis]
  refine KFB.if_not (by rfl) ?_
  refine wpAny_bind (clsIsType ho ?_)
  refine wpAny_bind (wpAny_pure ?_)
  refine wpAny_bind (m := classData a) (clsData ho ?_)
  refine wpAny_bind (typeCls ho ?_)
  refine KFB.if_so (by rfl) ?_
  rw [hqn]
  exact wpAny_of_eq (chk_bis a) h
theorem bis_call {x a : Addr} {cd : ClassData} {sl : Array (Option Value)} {Q : Value → Shared → Prop} (ho' : s.heap.get? a = some (clsO cd sl)) (hqn : cd.qualname = qnK) (ho : s.heap.get? x = some (bisO a)) (h : Q .none s) : wpAny (model PR w) A (call (.ref x) [] []) Q E s := by
  refine wpAny_call (codeAny_of_tree ?_)
  show wpAny _ A.in1 (callAny (.ref x) ⟨[], []⟩) _ _ s
  simp only [callAny]
  refine wpAny_bind (wpAny_load ho ?_)
  simp only [bisO, show (Value.type "builtin_function_or_method" == Value.type "method" || Value.type "builtin_function_or_method" == Value.type "builtin_function_or_method" || Value.type "builtin_function_or_method" == Value.type "method-wrapper") = true by decide, if_true]
  refine KFB.if_so (by decide) ?_
  refine wpAny_bind (check_bis ho' hqn ?_)
  refine wpAny_bind (wpAny_pure (wpAny_pure ?_))
  refine ⟨Code.quiet_builtin _ (by decide +kernel), codeAny_builtin entry_bis ?_⟩
  unfold Builtin.«object.__init_subclass__»
  refine KFB.if_so rfl ?_
  exact wpAny_pure h
end
end Mine
set_option tactic.hygienic false
open PySem PySem.W PySem.Calls PyProof.Rows
set_option Elab.async false
set_option maxRecDepth 100000
set_option maxHeartbeats 4000000
set_option linter.unusedVariables false
set_option linter.unusedSimpArgs false
namespace Mine
section
variable {w : World} {M : Model} {A : Around} {E : Value → Shared → Prop} {s : Shared}
noncomputable def bodyL (vm vq vf vs i lt gt eq le ge st : Value) : NL := [(Str.ofString "__module__", vm), (Str.ofString "__qualname__", vq), (Str.ofString "__firstlineno__", vf), (Str.ofString "__slots__", vs), (Str.ofString "__init__", i), (Str.ofString "__lt__", lt), (Str.ofString "__gt__", gt),
  (Str.ofString "__eq__", eq), (Str.ofString "__le__", le), (Str.ofString "__ge__", ge), (Str.ofString "__hash__", .none), (Str.ofString "__static_attributes__", st)]
noncomputable abbrev sK : Str := Str.ofString "K"
theorem ifp_not {α : Type} {c : Prop} [Decidable c] {a b : Sem α} {Q : α → Shared → Prop} (hc : ¬ c) (h : wpAny M A b Q E s) : wpAny M A (if c then a else b) Q E s := by rw [if_neg hc]; exact h
theorem nsGetE {a : Addr} {l : NL} {n : Str} {r : Option Value} {Q : Option Value → Shared → Prop} (x : NsL s.heap a l) (e : l.lookup n = r) (h : Q r s) : wpAny M A (nsGet a n) Q E s := nsGetL x (by rw [e]; exact h)
theorem Ents.has {es : Array DictEntry} {l : NL} (r : Ents es.toList l) {n : Str} : es.any (·.key.isStr n) = (l.lookup n).isSome := by
  rw [← r.find n, Option.isSome_map, Bool.eq_iff_iff]; simp only [List.find?_isSome, Array.any_eq_true]
  constructor
  · rintro ⟨i, hi, hp⟩; exact ⟨es[i], by simp, hp⟩
  · rintro ⟨e, he, hp⟩
    obtain ⟨i, hi, rfl⟩ := List.getElem_of_mem he
    exact ⟨i, by simpa using hi, by simpa using hp⟩
theorem forIn_cons1 {α β : Type} {x : α} {xs : List α} {b b' : β} {f : α → β → Sem (ForInStep β)} {Q : β → Shared → Prop} (h : wpAny M A (f x b) (fun r s' => r = .yield b' ∧ wpAny M A (forIn xs b' f) Q E s') E s) : wpAny M A (forIn (x :: xs) b f) Q E s := by
  rw [List.forIn_cons]
  refine wpAny_bind (wpAny_mono h (fun r s' h' => ?_) fun _ _ e => e)
  obtain ⟨rfl, h'⟩ := h'
  exact h'
theorem clsLook {a : Addr} {cd : ClassData} {sl : Array (Option Value)} {l : NL} {n : Str} {r : Option Value} {Q : Option Value → Shared → Prop} (ho : s.heap.get? a = some (clsO cd sl)) (hm : cd.mro = [.ref a, .type "object"]) (hN : NsL s.heap cd.ns l) (hl : l.lookup n = none)
    (hb : classOwn (.type "object") n = pure r) (h : Q r s) : wpAny M A (typeLookup (.ref a) n) Q E s := by
  unfold typeLookup
  refine wpAny_bind (clsMro ho ?_)
  rw [hm]
  refine wpAny_bind (m := forIn ([.ref a, .type "object"] : List Value) _ _) (forIn_cons1 (b' := (none, ())) (wpAny_bind (m := classOwn (.ref a) n) (wpAny_bind (clsData ho (nsGetE hN hl (wpAny_pure ⟨rfl, forIn_one (wpAny_bind (wpAny_of_eq hb ?_))⟩))))))
  cases r with
  | none => exact wpAny_pure (wpAny_pure h)
  | some v => exact wpAny_pure (wpAny_pure h)
theorem f_onew : classOwn (.type "object") (Str.ofString "__new__") = pure (some (.builtin "object.__new__")) := by kernel_rfl
theorem f_ends : "object.__new__".endsWith ".__new__" = true := by decide +kernel
theorem refreshMaker_ok {a : Addr} {cd : ClassData} {sl : Array (Option Value)} {l : NL} {v : Value} {Q : Unit → Shared → Prop} (ho : s.heap.get? a = some (clsO cd sl)) (hm : cd.mro = [.ref a, .type "object"]) (hN : NsL s.heap cd.ns l) (hl : l.lookup (Str.ofString "__new__") = none)
    (hs : sl[4]? = some (some v)) (h : Q () s) : wpAny M A (Bind.refreshMaker a) Q E s := by
  unfold Bind.refreshMaker
  refine wpAny_bind (m := slotAt a 4) ?_
  unfold slotAt
  refine wpAny_bind (wpAny_loadPart ho (wpAny_pure ?_))
  show wpAny _ _ (if (sl[4]?.join).isNone = true then _ else _) _ _ _
  rw [hs]
  refine KFB.if_not rfl ?_
  refine wpAny_bind (clsLook ho hm hN hl f_onew ?_)
  show wpAny _ _ (if (!("object.__new__".endsWith ".__new__")) = true then _ else _) _ _ _
  rw [f_ends]
  exact wpAny_pure h
theorem loop1 : ∀ {es : List DictEntry} {l : NL} {Q : Bool → Shared → Prop}, Ents es l → Q false s → wpAny M A (forIn es false fun e __s => do
      let x ← asStr? e.key
      if x.isNone = true then pure (ForInStep.yield true) else pure (ForInStep.yield __s)) Q E s
  | _, _, Q, .nil, h => wpAny_pure h
  | _, _, Q, .cons hh n t v r, h => forIn_cons1 (b' := false) (wpAny_bind (wpAny_of_eq (a := some n) rfl (KFB.if_not rfl (wpAny_pure ⟨rfl, loop1 r h⟩))))
noncomputable def Nameless (s : Shared) (n : Str) (v : Value) : Prop := Builtin.heldUnderItsOwnName n v = false ∧ ∃ T, s.TypeIs v T ∧ typeLookup (.type T) "__set_name__" = pure none
theorem loop2 {k : DictEntry → Value → Sem (ForInStep PUnit)} : ∀ {es : List DictEntry} {l : NL} {Q : PUnit → Shared → Prop}, Ents es l → (∀ n v, (n, v) ∈ l → Nameless s n v) → Q ⟨⟩ s → wpAny M A (forIn es PUnit.unit fun e __s =>
      if Builtin.laidUnderItsOwnName e.key e.val = true then do
        Builtin.anAnswerIsGiven
        pure (ForInStep.yield PUnit.unit)
      else do
        let x ← specialOf e.val (Str.ofString "__set_name__")
        match x with
        | some sn => k e sn
        | _ => pure (ForInStep.yield PUnit.unit)) Q E s
  | _, _, Q, .nil, _, h => wpAny_pure h
  | _, _, Q, .cons hh n t v r, a, h => forIn_cons1 (b' := ⟨⟩) (KFB.if_not (a n v (by simp)).1 (by
      obtain ⟨T, hT, hl⟩ := (a n v (by simp)).2
      exact wpAny_bind (wpAny_specialOf hT hl (wpAny_pure ⟨rfl, loop2 r (fun n v q => a n v (by simp [q])) h⟩))))
theorem NsL.mono {h h' : Heap} {a : Addr} {l : NL} (x : NsL h a l) (k : Le h h') : NsL h' a l := by obtain ⟨x, y, e, r⟩ := x; exact ⟨x, y, k _ _ e, r⟩
noncomputable def clsL (vm vf vs i lt gt eq le ge st md : Value) : NL := [(Str.ofString "__module__", vm), (Str.ofString "__firstlineno__", vf), (Str.ofString "__slots__", vs), (Str.ofString "__init__", i), (Str.ofString "__lt__", lt), (Str.ofString "__gt__", gt),
  (Str.ofString "__eq__", eq), (Str.ofString "__le__", le), (Str.ofString "__ge__", ge), (Str.ofString "__hash__", .none), (Str.ofString "__static_attributes__", st), (sObj, md), (Str.ofString "__doc__", .none)]
noncomputable def clsK (a N : Addr) : ClassData := { name := sK, bases := [.type "object"], mro := [.ref a, .type "object"], ns := N, qualname := qnK, hasDict := false, slotNames := [sObj], hasDel := false }
structure ClsAt (h : Heap) (a N md : Addr) (i lt : Addr) (f₃ f₄ f₅ f₆ : Addr) : Prop where
  at_ : ∃ t vm vf vs st sl, h.get? a = some (clsO (clsK a N) sl) ∧ sl[4]? = some (some (.builtin "object.__new__")) ∧ NsL h N (clsL vm vf vs (.ref i) (.ref lt) (.ref f₃) (.ref f₄) (.ref f₅) (.ref f₆) st (.ref md)) ∧ h.get? md = some (memO a t)
theorem sn_str : typeLookup (.type "str") "__set_name__" = pure none := by rw [typeLookup_type, builtinLookup_eq_fast]; kernel_rfl
theorem sn_int : typeLookup (.type "int") "__set_name__" = pure none := by rw [typeLookup_type, builtinLookup_eq_fast]; kernel_rfl
theorem sn_list : typeLookup (.type "list") "__set_name__" = pure none := by rw [typeLookup_type, builtinLookup_eq_fast]; kernel_rfl
theorem sn_function : typeLookup (.type "function") "__set_name__" = pure none := by rw [typeLookup_type, builtinLookup_eq_fast]; kernel_rfl
theorem sn_none : typeLookup (.type "NoneType") "__set_name__" = pure none := by rw [typeLookup_type, builtinLookup_eq_fast]; kernel_rfl
theorem sn_tuple : typeLookup (.type "tuple") "__set_name__" = pure none := by rw [typeLookup_type, builtinLookup_eq_fast]; kernel_rfl
theorem sn_member : typeLookup (.type "member_descriptor") "__set_name__" = pure none := by rw [typeLookup_type, builtinLookup_eq_fast]; kernel_rfl
theorem sub_tuple : isSubtype (.type "tuple") (.type "tuple") = pure true := by rw [isSubtype_type]; kernel_rfl
theorem f_diter : typeLookup (.type "dict") "__iter__" = pure (some (.builtin "dict.__iter__")) := by rw [typeLookup_type, builtinLookup_eq_fast]; kernel_rfl
theorem sub_dict : isSubtype (.type "dict") (.type "dict") = pure true := by rw [isSubtype_type]; kernel_rfl
theorem tnew {D B f₁ f₂ f₃ f₄ f₅ f₆ sl st : Addr} {t tm tq tf to : Tok} {vm : Str} {vf : Int} {P : Fin → Shared → Prop}
    (hD : NsL s.heap D (bodyL (.str vm tm) (.str qnK tq) (.int vf tf) (.ref sl) (.ref f₁) (.ref f₂) (.ref f₃) (.ref f₄) (.ref f₅) (.ref f₆) (.ref st)))
    (hB : TupAt s.heap B [.type "object"]) (hsl : s.heap.IsList sl #[.str sObj to]) (hst : s.TypeIs (.ref st) "tuple")
    (hf : ∀ f ∈ [f₁, f₂, f₃, f₄, f₅, f₆], s.TypeIs (.ref f) "function") (hDm : D ≠ sysModules) (hop : (KF w).In s.heap)
    (hP : ∀ a N md h' tk, ClsAt h' a N md f₁ f₂ f₃ f₄ f₅ f₆ → Le s.heap h' → s.heap.get? a = none → s.heap.get? N = none → s.heap.get? md = none → P (.done (.ret (.ref a))) { s with heap := h', toks := tk }) : wpAny (model PR w) A (Builtin.«type.__new__» ⟨[.type "type", .str sK t, .ref B, .ref D], []⟩) P E s := by
  obtain ⟨es, ep, eD, rD⟩ := id hD
  obtain ⟨nB, eB⟩ := id hB
  unfold Builtin.«type.__new__»
  refine wpAny_bind (wpAny_of_eq (a := some sK) rfl ?_)
  refine wpAny_bind (m := isInstance (.ref B) (.type "tuple")) (wpAny_bind (wpAny_typeOf (T := "tuple") ⟨_, eB, rfl⟩ (wpAny_of_eq sub_tuple ?_)))
  refine KFB.if_not rfl ?_
  refine wpAny_bind (wpAny_bind (wpAny_typeOf (T := "dict") ⟨_, eD, rfl⟩ (wpAny_of_eq sub_dict ?_)))
  refine KFB.if_not rfl ?_
  refine wpAny_bind (m := seqItems? (.ref B)) (wpAny_seqItems eB rfl ?_)
  refine ifp_not (c := ((#[Value.type "object"] : Array Value).toList.length > 2 ^ 20)) (by decide) ?_
  refine wpAny_bind (m := forIn ([.type "object"] : List Value) _ _) (forIn_one (wpAny_bind (wpAny_of_eq (a := true) rfl ?_)))
  refine KFB.if_not rfl (wpAny_pure ?_)
  refine wpAny_bind (m := forIn ([.type "object"] : List Value) _ _) (forIn_one (wpAny_bind (wpAny_of_eq ty_object (wpAny_bind (wpAny_of_eq sub_type ?_)))))
  refine KFB.if_so rfl (wpAny_pure ?_)
  refine KFB.if_not (by decide) ?_
  refine wpAny_bind (m := Builtin.notOverATurnedClass [.type "object"]) (wpAny_of_eq f_turned ?_)
  refine wpAny_bind (m := Builtin.extendedBase [.type "object"]) (wpAny_of_eq f_ext ?_)
  refine KFB.if_not (by simpa using hDm) ?_
  refine wpAny_bind (m := dictEntries D) (wpAny_dictEntries eD rfl ?_)
  refine wpAny_bind (wpAny_specialOf (T := "dict") ⟨_, eD, rfl⟩ f_diter ?_)
  refine KFB.if_so (by simp) ?_
  refine wpAny_bind (m := pure (es, [])) (wpAny_pure ?_)
  refine wpAny_bind (m := holding [] (Builtin.Slots.read sK [.type "object"] es)) (wpAny_holding (slots_read rD (by kernel_rfl) hsl (by kernel_rfl) fun h₁ k₁ => ?_))
  refine wpAny_bind (wpAny_newObj_type (hd := by have := rD.len; rw [Array.length_toList] at this; show es.size ≤ sizeLine + 1; rw [this, sizeLine_eq]; show 12 ≤ _; walk_at "om") ?_)
  generalize hLdef : bodyL (.str vm tm) (.str qnK tq) (.int vf tf) (.ref sl) (.ref f₁) (.ref f₂) (.ref f₃) (.ref f₄) (.ref f₅) (.ref f₆) (.ref st) = L at rD hD
  have lk : ∀ n v, (bodyL (.str vm tm) (.str qnK tq) (.int vf tf) (.ref sl) (.ref f₁) (.ref f₂) (.ref f₃) (.ref f₄) (.ref f₅) (.ref f₆) (.ref st)).lookup n = v → L.lookup n = v := fun n v e => by rw [← hLdef]; exact e
  obtain ⟨N, hNd⟩ : ∃ N, N = h₁.objs.size := ⟨_, rfl⟩
  obtain ⟨h₂, hh₂⟩ : ∃ h₂, h₂ = h₁.push { cls := .type "dict", data := .dict es } := ⟨_, rfl⟩
  have hN : NsL h₂ N L := ⟨es, _, by rw [hh₂, hNd]; exact Heap.get?_push_size _ rfl, rD⟩
  have k₂ : Le h₁ h₂ := hh₂ ▸ le_push _ _
  rw [← hNd, ← hh₂]
  refine KFB.if_not (by show (!(es.any fun x => x.key.isStr (Str.ofString "__module__"))) = false; rw [rD.has]; rw [lk _ (some (.str vm tm)) (by kernel_rfl)]; rfl) ?_
  refine wpAny_bind (KFB.if_not (by decide +kernel) (wpAny_pure ?_))
  refine KFB.if_not (by decide +kernel) ?_
  refine wpAny_bind (m := nsGet N (Str.ofString "__qualname__")) (nsGetE hN (lk _ (some (.str qnK tq)) (by kernel_rfl)) ?_)
  refine wpAny_bind (m := nsGet N (Str.ofString "__qualname__")) (nsGetE hN (lk _ (some (.str qnK tq)) (by kernel_rfl)) ?_)
  refine wpAny_bind (wpAny_of_eq (a := some qnK) rfl ?_)
  refine wpAny_bind (m := nsGet N (Str.ofString "__doc__")) (nsGetE hN (lk _ none (by kernel_rfl)) ?_)
  refine wpAny_bind (wpAny_alloc ?_)
  obtain ⟨a, ha⟩ : ∃ a, a = h₂.objs.size := ⟨_, rfl⟩
  obtain ⟨h₃, hh₃⟩ : ∃ h₃, h₃ = h₂.push (clsO { name := sK, bases := [.type "object"], mro := [], ns := N, qualname := qnK } #[]) := ⟨_, rfl⟩
  have k₃ : Le h₂ h₃ := hh₃ ▸ le_push _ _
  have o₃ : h₃.get? a = some (clsO { name := sK, bases := [.type "object"], mro := [], ns := N, qualname := qnK } #[]) := by rw [hh₃, ha]; exact Heap.get?_push_size _ rfl
  have aN : a ≠ N := by obtain ⟨_, _, e, _⟩ := hN; rw [ha]; exact Nat.ne_of_gt (Heap.lt_size e)
  have hN₃ : NsL h₃ N L := by obtain ⟨x, y, e, r⟩ := hN; exact ⟨x, y, k₃ _ _ e, r⟩
  show wpAny _ _ (setSlotAt h₂.objs.size 0 (some (.ref B)) >>= _) _ _ { s with heap := h₂.push (clsO { name := sK, bases := [.type "object"], mro := [], ns := N, qualname := qnK } #[]) }
  rw [← ha, ← hh₃]
  refine wpAny_bind (setSl o₃ (by walk_at "om") fun h₄ o₄ s₄ => ?_)
  replace o₄ : h₄.get? a = some (clsO { name := sK, bases := [.type "object"], mro := [], ns := N, qualname := qnK } #[some (.ref B)]) := o₄
  refine wpAny_bind (m := setSlotAt a 2 (some (.str sK t))) (setSl o₄ (by walk_at "om") fun h₅ o₅ s₅ => ?_)
  replace o₅ : h₅.get? a = some (clsO { name := sK, bases := [.type "object"], mro := [], ns := N, qualname := qnK } #[some (.ref B), none, some (.str sK t)]) := o₅
  refine wpAny_bind (m := setSlotAt a 3 (some (.str qnK tq))) (setSl o₅ (by walk_at "om") fun h₆ o₆ s₆ => ?_)
  replace o₆ : h₆.get? a = some (clsO { name := sK, bases := [.type "object"], mro := [], ns := N, qualname := qnK } #[some (.ref B), none, some (.str sK t), some (.str qnK tq)]) := o₆
  have b₆ : Heap.SameBut a h₃ h₆ := s₄.trans (s₅.trans s₆)
  have hN₆ : NsL h₆ N L := by obtain ⟨x, y, e, r⟩ := hN₃; exact ⟨x, y, (b₆.2 N aN.symm).trans e, r⟩
  refine wpAny_bind (m := nsDel N (Str.ofString "__qualname__")) (nsDelL hN₆ fun h₇ hN₇ s₇ => ?_)
  have o₇ := (s₇.2 a aN).trans o₆
  obtain ⟨L₇, hL₇⟩ : ∃ L₇, L₇ = delL L (Str.ofString "__qualname__") := ⟨_, rfl⟩
  rw [← hL₇] at hN₇
  have lk₇ : ∀ n v, (delL (bodyL (.str vm tm) (.str qnK tq) (.int vf tf) (.ref sl) (.ref f₁) (.ref f₂) (.ref f₃) (.ref f₄) (.ref f₅) (.ref f₆) (.ref st)) (Str.ofString "__qualname__")).lookup n = v → L₇.lookup n = v := fun n v e => by rw [hL₇, ← hLdef]; exact e
  refine wpAny_bind (m := nsGet N (Str.ofString "__new__")) (nsGetE hN₇ (lk₇ _ none (by kernel_rfl)) ?_)
  refine wpAny_bind (m := forIn [Str.ofString "__init_subclass__", Str.ofString "__class_getitem__"] _ _) (forIn_cons1 (b' := ⟨⟩) (wpAny_bind (nsGetE hN₇ (lk₇ _ none (by kernel_rfl)) (wpAny_pure ⟨rfl, forIn_one (wpAny_bind (nsGetE hN₇ (lk₇ _ none (by kernel_rfl)) (wpAny_pure ?_)))⟩))))
  refine wpAny_bind (m := nsGet N (Str.ofString "__classcell__")) (nsGetE hN₇ (lk₇ _ none (by kernel_rfl)) ?_)
  refine wpAny_bind (m := nsGet N (Str.ofString "__classdictcell__")) (nsGetE hN₇ (lk₇ _ none (by kernel_rfl)) ?_)
  refine wpAny_bind (m := Builtin.mroHook? (.type "type")) (wpAny_of_eq f_hook ?_)
  refine wpAny_bind (m := Builtin.linearize [.type "object"] mroOf) (wpAny_of_eq f_lin ?_)
  refine wpAny_bind (m := pure ([.ref a, .type "object"] : List Value)) (wpAny_pure ?_)
  have hdel : es.any (fun x => x.key.isStr (Str.ofString "__del__")) = false := by rw [rD.has, lk _ none (by kernel_rfl)]; rfl
  refine wpAny_bind (m := List.anyM _ (List.filter (fun x => x != .ref a) ([.ref a, .type "object"] : List Value))) (wpAny_of_eq (a := false) (by rw [show List.filter (fun x => x != .ref a) ([.ref a, .type "object"] : List Value) = [.type "object"] by simp]; kernel_rfl) ?_)
  refine wpAny_bind (m := updateCls a _) (updCls o₇ ⟨by show 0 ≤ 1000; walk_at "om", by show 0 ≤ 1000; walk_at "om"⟩ fun h₈ o₈ s₈ => ?_)
  replace o₈ : h₈.get? a = some (clsO { name := sK, bases := [.type "object"], mro := [.ref a, .type "object"], ns := N, qualname := qnK, hasDel := false } #[some (.ref B), none, some (.str sK t), some (.str qnK tq)]) := o₈.trans (by
    show some (clsO { name := sK, bases := [.type "object"], mro := [.ref a, .type "object"], ns := N, qualname := qnK, hasDel := (es.any (fun x => x.key.isStr (Str.ofString "__del__")) || false) } _) = _
    rw [hdel]; rfl)
  refine wpAny_bind (m := Bind.madeBy (.type "object")) (wpAny_of_eq f_made ?_)
  refine wpAny_bind (m := setSlotAt a 4 (some (.builtin "object.__new__"))) (setSl o₈ (by walk_at "om") fun h₉ o₉ s₉ => ?_)
  replace o₉ : h₉.get? a = some (clsO { name := sK, bases := [.type "object"], mro := [.ref a, .type "object"], ns := N, qualname := qnK, hasDel := false } #[some (.ref B), none, some (.str sK t), some (.str qnK tq), some (.builtin "object.__new__")]) := o₉
  have b₉ : Heap.SameBut a h₇ h₉ := s₈.trans s₉
  have hN₉ : NsL h₉ N L₇ := by obtain ⟨x, y, e, r⟩ := hN₇; exact ⟨x, y, (b₉.2 N aN.symm).trans e, r⟩
  refine wpAny_bind (m := Bind.refreshMaker a) (refreshMaker_ok o₉ rfl hN₉ (lk₇ _ none (by kernel_rfl)) rfl ?_)
  refine wpAny_bind (m := Builtin.Slots.install (.ref a) N [.type "object"] { names := [sObj], dict := false, weak := false, inherited := [] }) (slots_install o₉ hN₉ (lk₇ _ none (by kernel_rfl)) aN (by rw [hL₇, ← hLdef]; show 11 ≤ 1000; walk_at "om") rfl fun md tm' h₁₀ tk₁₀ o₁₀ hN₁₀ em em' k₁₀ => ?_)
  refine wpAny_bind (m := Builtin.Slots.givesWeak (.type "object")) (wpAny_of_eq f_weak ?_)
  refine wpAny_bind (m := setSlotAt a 5 (some (.bool false))) (setSl o₁₀ (by walk_at "om") fun h₁₁ o₁₁ s₁₁ => ?_)
  replace o₁₁ : h₁₁.get? a = some (clsO { name := sK, bases := [.type "object"], mro := [.ref a, .type "object"], ns := N, qualname := qnK, hasDict := false, slotNames := [sObj], hasDel := false } #[some (.ref B), none, some (.str sK t), some (.str qnK tq), some (.builtin "object.__new__"), some (.bool false)]) := o₁₁
  obtain ⟨L₁₀, hL₁₀⟩ : ∃ L₁₀, L₁₀ = putL L₇ sObj (.ref md) := ⟨_, rfl⟩
  have hN₁₁ : NsL h₁₁ N L₁₀ := by rw [hL₁₀]; obtain ⟨x, y, e, r⟩ := hN₁₀; exact ⟨x, y, (s₁₁.2 N aN.symm).trans e, r⟩
  have lk₁₀ : ∀ n v, (putL (delL (bodyL (.str vm tm) (.str qnK tq) (.int vf tf) (.ref sl) (.ref f₁) (.ref f₂) (.ref f₃) (.ref f₄) (.ref f₅) (.ref f₆) (.ref st)) (Str.ofString "__qualname__")) sObj (.ref md)).lookup n = v → L₁₀.lookup n = v := fun n v e => by rw [hL₁₀, hL₇, ← hLdef]; exact e
  refine KFB.if_not rfl ?_
  refine KFB.if_not rfl ?_
  refine wpAny_bind (m := nsGet N (Str.ofString "__doc__")) (nsGetE hN₁₁ (lk₁₀ _ none (by kernel_rfl)) ?_)
  refine KFB.if_so rfl ?_
  refine wpAny_bind (m := nsSet N (Str.ofString "__doc__") .none) (nsSetL hN₁₁ fun h₁₂ hN₁₂ s₁₂ => ?_)
  have o₁₂ := (s₁₂.2 a aN).trans o₁₁
  obtain ⟨L₁₂, hL₁₂⟩ : ∃ L₁₂, L₁₂ = putL L₁₀ (Str.ofString "__doc__") .none := ⟨_, rfl⟩
  rw [← hL₁₂] at hN₁₂
  have lk₁₂ : ∀ n v, (putL (putL (delL (bodyL (.str vm tm) (.str qnK tq) (.int vf tf) (.ref sl) (.ref f₁) (.ref f₂) (.ref f₃) (.ref f₄) (.ref f₅) (.ref f₆) (.ref st)) (Str.ofString "__qualname__")) sObj (.ref md)) (Str.ofString "__doc__") .none).lookup n = v → L₁₂.lookup n = v := fun n v e => by rw [hL₁₂, hL₁₀, hL₇, ← hLdef]; exact e
  refine wpAny_bind (m := nsGet N (Str.ofString "__eq__")) (nsGetE hN₁₂ (lk₁₂ _ (some (.ref f₄)) (by kernel_rfl)) ?_)
  refine KFB.if_so rfl ?_
  refine wpAny_bind (m := nsGet N (Str.ofString "__hash__")) (nsGetE hN₁₂ (lk₁₂ _ (some .none) (by kernel_rfl)) ?_)
  refine KFB.if_not rfl ?_
  refine wpAny_bind (m := forIn ([.type "object"] : List Value) _ _) (forIn_one (wpAny_bind (m := Builtin.noteSubclassOfBuiltin "object" a) (wpAny_of_eq f_start (wpAny_pure ?_))))
  have hnew : ∀ b o, s.heap.get? b = some o → b ≠ a ∧ b ≠ N := fun b o e => ⟨ha ▸ Nat.ne_of_lt (Heap.lt_size (k₂ _ _ (k₁ _ _ e))), hNd ▸ Nat.ne_of_lt (Heap.lt_size (k₁ _ _ e))⟩
  have kA : Le s.heap h₁₂ := fun b o e => by
    obtain ⟨q1, q2⟩ := hnew b o e
    exact (s₁₂.2 b q2).trans ((s₁₁.2 b q1).trans (k₁₀ b o q1 q2 ((b₉.2 b q1).trans ((s₇.2 b q2).trans ((b₆.2 b q1).trans (k₃ _ _ (k₂ _ _ (k₁ _ _ e))))))))
  have mda : md ≠ a := fun q => by have := em'; rw [q] at this; rw [o₉] at this; cases this
  have mdN : md ≠ N := fun q => by have := em'; rw [q] at this; obtain ⟨x, y, e, r⟩ := hN₉; rw [e] at this; cases this
  have em₁₂ : h₁₂.get? md = some (memO a tm') := (s₁₂.2 md mdN).trans ((s₁₁.2 md mda).trans em)
  have e12 : L₁₂ = clsL (.str vm tm) (.int vf tf) (.ref sl) (.ref f₁) (.ref f₂) (.ref f₃) (.ref f₄) (.ref f₅) (.ref f₆) (.ref st) (.ref md) := by rw [hL₁₂, hL₁₀, hL₇, ← hLdef]; kernel_rfl
  have haf : s.heap.get? a = none := by
    cases e : s.heap.get? a with
    | none => rfl
    | some o => exact absurd rfl (hnew a o e).1
  have hNf : s.heap.get? N = none := by
    cases e : s.heap.get? N with
    | none => rfl
    | some o => exact absurd rfl (hnew N o e).2
  have hmf : s.heap.get? md = none := by
    cases e : s.heap.get? md with
    | none => rfl
    | some o =>
      have := em'
      rw [show h₉.get? md = some o from (b₉.2 md mda).trans ((s₇.2 md mdN).trans ((b₆.2 md mda).trans (k₃ _ _ (k₂ _ _ (k₁ _ _ e)))))] at this
      cases this
  obtain ⟨es₁₂, ep₁₂, eN₁₂, rN₁₂⟩ := id hN₁₂
  have X₁₂ : (KF w).In h₁₂ := hop.keeps kA
  clear hN₁₁ hN₁₀ hN₉ hN₇ hN₆ hN₃ hN
  show wpAny _ _ (Sem.tryCatch (holding [.ref a] _) _ >>= _) _ _ { s with heap := h₁₂, toks := tk₁₀ + 1 }
  refine wpAny_bind (wpAny_tryCatch (wpAny_holding ?_))
  refine wpAny_bind (m := dictEntries N) (wpAny_dictEntries eN₁₂ rfl ?_)
  refine wpAny_bind ?_
  rw [← Array.forIn_toList]
  refine loop1 rN₁₂ ?_
  refine KFB.if_not rfl ?_
  refine wpAny_bind (m := dictEntries N) (wpAny_dictEntries eN₁₂ rfl ?_)
  refine wpAny_bind ?_
  rw [← Array.forIn_toList]
  refine loop2 rN₁₂ (fun n v hm => ?_) ?_
  · rw [e12] at hm
    have ty : ∀ f T, s.TypeIs (.ref f) T → Shared.TypeIs { s with heap := h₁₂, toks := tk₁₀ + 1 } (.ref f) T := fun f T q => by obtain ⟨o, e, c⟩ := q; exact ⟨o, kA _ _ e, c⟩
    simp only [clsL, List.mem_cons, Prod.mk.injEq, List.not_mem_nil, or_false] at hm
    rcases hm with ⟨rfl, rfl⟩ | ⟨rfl, rfl⟩ | ⟨rfl, rfl⟩ | ⟨rfl, rfl⟩ | ⟨rfl, rfl⟩ | ⟨rfl, rfl⟩ | ⟨rfl, rfl⟩ | ⟨rfl, rfl⟩ | ⟨rfl, rfl⟩ | ⟨rfl, rfl⟩ | ⟨rfl, rfl⟩ | ⟨rfl, rfl⟩ | ⟨rfl, rfl⟩
    · exact ⟨rfl, "str", rfl, sn_str⟩
    · exact ⟨rfl, "int", rfl, sn_int⟩
    · exact ⟨rfl, "list", ty _ _ (by obtain ⟨o, e, c, _⟩ := hsl; exact ⟨o, e, c⟩), sn_list⟩
    · exact ⟨rfl, _, ty _ _ (hf _ (by simp)), sn_function⟩
    · exact ⟨rfl, _, ty _ _ (hf _ (by simp)), sn_function⟩
    · exact ⟨rfl, _, ty _ _ (hf _ (by simp)), sn_function⟩
    · exact ⟨rfl, _, ty _ _ (hf _ (by simp)), sn_function⟩
    · exact ⟨rfl, _, ty _ _ (hf _ (by simp)), sn_function⟩
    · exact ⟨rfl, _, ty _ _ (hf _ (by simp)), sn_function⟩
    · exact ⟨rfl, "NoneType", rfl, sn_none⟩
    · exact ⟨rfl, _, ty _ _ hst, sn_tuple⟩
    · exact ⟨rfl, _, ⟨_, em₁₂, rfl⟩, sn_member⟩
    · exact ⟨rfl, "NoneType", rfl, sn_none⟩
  refine wpAny_bind (m := call (.type "super") [.ref a, .ref a]) (super_call o₁₂ rfl fun h₁₃ es₁₃ k₁₃ => ?_)
  refine wpAny_bind (wpAny_holding (super_get (k₁₃ _ _ o₁₂) rfl es₁₃ (looks_opaque (X₁₂.keeps k₁₃) (by rfl)) ?_))
  refine wpAny_bind (bis_call (Heap.get?_push_of_some _ (k₁₃ _ _ o₁₂)) rfl (Heap.get?_push_size _ rfl) ?_)
  refine wpAny_pure (wpAny_pure ?_)
  have kB := k₁₃.trans (le_push h₁₃ (bisO a))
  exact hP a N md _ _ ⟨tm', _, _, _, _, _, kB _ _ o₁₂, rfl, by have := hN₁₂.mono kB; rw [e12] at this; exact this, kB _ _ em₁₂⟩ (kA.trans kB) haf hNf hmf
end
end Mine
set_option tactic.hygienic false
open PySem PySem.W PySem.Calls PyProof.Rows
set_option Elab.async false
set_option maxRecDepth 100000
set_option maxHeartbeats 4000000
set_option linter.unusedVariables false
set_option linter.unusedSimpArgs false
namespace Mine
section
variable {w : World} {M : Model} {A : Around} {E : Value → Shared → Prop} {s : Shared}
theorem mro_type : mroOf (.type "type") = pure [.type "type", .type "object"] := by rw [mroOf_type]; kernel_rfl
theorem chk_tnew (a b c : Value) : checkBuiltinCall "type.__new__" ⟨[.type "type", a, b, c], []⟩ = pure () := by kernel_rfl
theorem entry_tnew : entryFor table "type.__new__" = some Builtin.«type.__new__» := entryFor_of_tree (by kernel_rfl)
theorem entry_tinit : entryFor table "type.__init__" = some Builtin.«type.__init__» := entryFor_of_tree (by kernel_rfl)
theorem slot_tinit : Slot "type" "__init__" "type.__init__" := .of (owner := "type") (n := "__init__") (by rw [typeLookup_type, builtinLookup_eq_fast]; kernel_rfl) (by decide +kernel) (by decide +kernel) (by decide +kernel)
  (by first | exact .inl (by decide +kernel) | exact .inr (by decide +kernel)) (by rw [isSubtype_type]; kernel_rfl)
theorem args_tinit (o a b c : Value) : argsOk "type.__init__" ⟨[o, a, b, c], []⟩ := by unfold argsOk; kernel_rfl
theorem type_call {B D : Value} {t : Tok} {Q : Value → Shared → Prop}
    (hnew : ∀ (A : Around) (P : Fin → Shared → Prop), (∀ a s', s'.TypeIs (.ref a) "type" → Q (.ref a) s' → P (.done (.ret (.ref a))) s') → wpAny (model PR w) A (Builtin.«type.__new__» ⟨[.type "type", .str sK t, B, D], []⟩) P (fun _ _ => False) s)  :
    wpAny (model PR w) A (call (.type "type") [.str sK t, B, D] []) Q E s := by
  refine wpAny_call (codeAny_of_tree ?_)
  show wpAny _ _ (callAny (.type "type") _) _ _ _
  refine wpAny_pure ⟨Code.quiet_builtin _ (by decide +kernel), codeAny_builtin F.entry_type_call ?_⟩
  rw [Around.under_plain (weight_type_call_type "type" [.str sK t, B, D] []) rfl]
  unfold Builtin.«type.__call__»
  refine KFB.if_so rfl ?_
  refine KFB.if_not rfl ?_
  refine KFB.if_not rfl ?_
  refine KFB.if_not (by kernel_rfl) ?_
  refine wpAny_bind (m := checkTypeCall "type" ⟨[.str sK t, B, D], []⟩) (wpAny_of_eq (f_check _ _ _) ?_)
  refine wpAny_bind (m := mroOf (.type "type")) (wpAny_of_eq mro_type ?_)
  refine KFB.if_not rfl ?_
  refine wpAny_bind (m := Bind.madeBy (.type "type")) (wpAny_of_eq f_madet ?_)
  refine wpAny_bind (wpAny_pure ?_)
  refine wpAny_bind (wpAny_holding (wpAny_call (codeAny_of_tree ?_)))
  show wpAny _ _ (do checkBuiltinCall "type.__new__" ⟨[.type "type", .str sK t, B, D], []⟩; again (.builtin "type.__new__" ⟨[.type "type", .str sK t, B, D], []⟩)) _ _ s
  refine wpAny_bind (wpAny_of_eq (chk_tnew _ _ _) (wpAny_pure ⟨Code.quiet_builtin _ (by decide +kernel), codeAny_builtin entry_tnew ?_⟩))
  refine wpAny_mono (hnew _ _ fun a s' hT hQ => ?_) (fun _ _ h => h) fun _ _ f => f.elim
  refine wpAny_bind (m := isInstance (.ref a) (.type "type")) (wpAny_bind (wpAny_typeOf hT (wpAny_of_eq sub_type ?_)))
  refine KFB.if_not rfl ?_
  refine wpAny_bind (m := holding [.ref a] (callSpecial? (.ref a) (Str.ofString "__init__") [.str sK t, B, D] [])) (wpAny_holding ?_)
  unfold callSpecial?
  refine wpAny_bind (wpAny_specialOf hT slot_tinit.lookup (wpAny_holding ?_))
  refine wpAny_bind (m := bindSpecial (.builtin "type.__init__") (.ref a)) (wpAny_of_eq (slot_tinit.bind _) ?_)
  refine wpAny_bind (m := call (.builtin "type.__init__") [.ref a, .str sK t, B, D] []) (wpAny_call_entry slot_tinit hT entry_tinit ?_ (args_tinit _ _ _ _))
  unfold Builtin.«type.__init__»
  refine KFB.if_not rfl ?_
  refine KFB.if_not rfl ?_
  refine wpAny_pure ⟨_, rfl, ?_⟩
  refine wpAny_pure ?_
  refine KFB.if_not rfl ?_
  exact wpAny_pure hQ
end
end Mine
set_option tactic.hygienic false
open PySem PySem.W PySem.Calls PyProof.Rows
set_option Elab.async false
set_option maxRecDepth 100000
set_option maxHeartbeats 4000000
set_option linter.unusedVariables false
set_option linter.unusedSimpArgs false
namespace Mine
noncomputable def hid (S : Addr → Bool) (P D : Addr) (h : Heap) : Heap := restr h fun b => S b && (b != P && b != D)
theorem hid_get {S : Addr → Bool} {P D b : Addr} {h : Heap} {o : Obj} (e : h.get? b = some o) (hs : S b = true) (hp : b ≠ P) (hd : b ≠ D) : (hid S P D h).get? b = some o := by
  unfold hid; rw [restr_get, e]; simp [hs, hp, hd]
theorem hid_of' {S : Addr → Bool} {P D b : Addr} {h : Heap} {o : Obj} (e : (hid S P D h).get? b = some o) : h.get? b = some o ∧ S b = true ∧ b ≠ P ∧ b ≠ D := by
  unfold hid at e; rw [restr_get] at e
  split at e
  · rename_i q
    simp at q
    exact ⟨e, q⟩
  · cases e
theorem hid_of {S : Addr → Bool} {P D b : Addr} {h : Heap} {o : Obj} (e : (hid S P D h).get? b = some o) : h.get? b = some o ∧ b ≠ P ∧ b ≠ D := let ⟨a, _, c⟩ := hid_of' e; ⟨a, c⟩
theorem hid_le {S : Addr → Bool} {P D : Addr} {h h' : Heap} (k : ∀ b o, b ≠ P → b ≠ D → h.get? b = some o → h'.get? b = some o) : Le (hid S P D h) (hid S P D h') := fun b o e => by
  obtain ⟨e, hs, hp, hd⟩ := hid_of' e
  exact hid_get (k b o hp hd e) hs hp hd
noncomputable abbrev tt : Addr → Bool := fun _ => true
theorem hidS {S : Addr → Bool} {P D : Addr} {h h' : Heap} (k : Le (hid tt P D h) (hid tt P D h')) : Le (hid S P D h) (hid S P D h') := hid_le fun b o q1 q2 e => (hid_of (k _ _ (hid_get e rfl q1 q2))).1
theorem hid_sub {S : Addr → Bool} {P D : Addr} {h : Heap} : Le (hid S P D h) h := fun b o e => (hid_of e).1
theorem six_one : ∀ r ∈ six, ∀ r' ∈ six, (rawInt r.1.line = rawInt r'.1.line ∧ rawInt r.1.col = rawInt r'.1.col) → r.2 = r'.2 := by
  intro r hr r' hr' e
  simp only [six, List.mem_cons, List.not_mem_nil, or_false] at hr hr'
  obtain ⟨e1, _⟩ := e
  have e1' : r.1.line = r'.1.line := Int.ofNat_inj.mp (by simpa [rawInt] using e1)
  rcases hr with rfl | rfl | rfl | rfl | rfl | rfl <;> rcases hr' with rfl | rfl | rfl | rfl | rfl | rfl <;> first | rfl | (exact absurd e1' (by decide))
section
variable {w : World} {M : Model} {A : Around} {E : Value → Shared → Prop} {s : Shared}
theorem mkFn {S : Addr → Bool} {env : Env} {name qual : Str} {params : Arguments} {body : List Stmt} {scope : Scope} {pos : Pos} {firstLine : Nat} {clos : List (Str × Addr)} {c P D : Addr} {ps : Array Value} {mg : Str → Option Value} {Q : Value → Shared → Prop}
    (r : (pos, qual) ∈ six) (hcl : closureFor scope env = pure clos) (hge0 : env.globals = mainGlobals) (hg : s.heap.Ns mainGlobals mg) (hcode : env.code = .ref c) (C : CodeHd s.heap c P) (T : TabAt s.heap P ps) (K : CodesOk (hid S P D s.heap) six ps) (hgP : mainGlobals ≠ P) (hb : s.heap.BuiltinsAt mg P)
    (hD : ∃ o, s.heap.get? D = some o) (hS : ∀ b, s.heap.get? b = none → S b = true)
    (h : ∀ cv ctv doc f h' tk ps', (∀ b o, b ≠ P → s.heap.get? b = some o → h'.get? b = some o) → TabAt h' P ps' → CodesOk (hid S P D h') six ps' → (hid S P D h').CodeRec cv qual →
      h'.get? f = some { cls := .type "function", data := .func (fnX name qual params body scope clos .none .none doc ((mg "__name__").getD .none) none cv ctv) } → s.heap.get? f = none → Q (.ref f) { s with heap := h', toks := tk }) :
    wpAny M A (makeFunction name qual params (.stmts body) scope env [] [] [] pos firstLine) Q E s := by
  obtain ⟨hP, ht⟩ := T
  obtain ⟨oD, eD⟩ := hD
  cases hf : codeAmong pos ps.toList with
  | some cv =>
    refine makeFunction_hit hcl hge0 hg hcode C hP ht hf hb fun ctv doc h' tk hk hsz => ?_
    have kp : Le s.heap (h'.push { cls := .type "function", data := .func (fnX name qual params body scope clos .none .none doc ((mg "__name__").getD .none) none cv ctv) }) := fun b o e => Heap.get?_push_of_some _ (hk b o e)
    have kh := hid_le (S := S) (P := P) (D := D) fun b o _ _ e => kp b o e
    refine h cv ctv doc _ _ tk ps (fun b o _ e => kp b o e) ⟨kp _ _ hP, ht⟩ (K.mono kh) ((K _ r cv hf).keeps kh) (Heap.get?_push_size _ rfl) ?_
    cases e : s.heap.get? h'.objs.size with
    | none => rfl
    | some o => exact absurd (hk _ _ e) (by rw [fresh_size]; nofun)
  | none =>
    refine makeFunction_K hcl hge0 hg hcode C hP ht hf hgP hb fun c' ctv doc h' tk hx hge hlt hrec htb => ?_
    have hx' : ∀ b o, b ≠ P → s.heap.get? b = some o → (h'.push (fnMade name qual params body scope clos doc ((mg "__name__").getD .none) c' ctv)).get? b = some o := fun b o hb e => Heap.get?_push_of_some _ (hx b o hb e)
    have kh := hid_le (S := S) (P := P) (D := D) fun b o q _ e => hx' b o q e
    have hcn : s.heap.get? c' = none := fresh_ge hge
    have hcr : (hid S P D (h'.push (fnMade name qual params body scope clos doc ((mg "__name__").getD .none) c' ctv))).CodeRec (.ref c') qual :=
      codeRec_freeze (h := s.heap) (hrec.push _) fun c e o ho => by
        cases e
        exact hid_get ho (hS _ hcn) (fun q => by rw [q, hP] at hcn; cases hcn) (fun q => by rw [q, eD] at hcn; cases hcn)
    refine h (.ref c') ctv doc _ _ tk _ hx' ⟨Heap.get?_push_of_some _ htb, ?_⟩ ((K.mono kh).snoc ht hf hcr fun r' hr' e => ?_) hcr (Heap.get?_push_size _ rfl) ?_
    · have : (ps ++ #[rawInt pos.line, rawInt pos.col, Value.ref c']).toList = ps.toList ++ [rawInt pos.line, rawInt pos.col, .ref c'] := by simp
      rw [this]; exact TriplesOk_snoc _ _ _ _ ht
    · exact six_one r' hr' _ r e
    · cases e : s.heap.get? h'.objs.size with
      | none => rfl
      | some o =>
        by_cases hb : h'.objs.size = P
        · have := Heap.lt_size htb
          exact absurd this (by rw [← hb]; exact Nat.lt_irrefl _)
        · exact absurd (hx _ _ hb e) (by rw [fresh_size]; nofun)
theorem cStore {env : Env} {n : Str} {v : Value} {l : NL} {Q : Unit → Shared → Prop} (hk : env.scope.kind = .class) (hc : env.kindOf n = some .local ∨ (env.kindOf n = none ∧ compilersOwnNames.contains n = true)) (hD : NsL s.heap env.locals l)
    (h : ∀ h', NsL h' env.locals (putL l n v) → Heap.SameBut env.locals s.heap h' → Q () { s with heap := h', toks := s.toks + 1 }) : wpAny M A (storeName env n v) Q E s := by
  have ls : wpAny M A (localSet env n v) Q E s := by
    obtain ⟨x, y, e, r⟩ := id hD
    unfold localSet
    refine wpAny_bind (wpAny_load e ?_)
    exact KFB.if_so rfl (nsSetL hD h)
  have hb : (env.blockKind == .function) = false := by unfold Env.blockKind; rw [hk]; rfl
  unfold storeName
  rcases hc with hc | ⟨hc, hn⟩
  · simp only [hc, hk]; exact ls
  · simp only [hc, hk, hb, hn]; exact ls
theorem cLoadNone {env : Env} {n : Str} {l : NL} {v : Value} {mg : Str → Option Value} {Q : Value → Shared → Prop} (hk : env.scope.kind = .class) (hc : env.kindOf n = none) (hn : compilersOwnNames.contains n = true) (hD : NsL s.heap env.locals l) (hl : l.lookup n = none)
    (hg : s.heap.Ns env.globals mg) (hm : mg n = some v) (h : Q v s) : wpAny M A (loadName env n) Q E s := by
  obtain ⟨x, y, e, r⟩ := id hD
  have hb : env.blockKind = .class := by unfold Env.blockKind; rw [hk]; rfl
  unfold loadName
  rw [hk, hb, hc]
  refine KFB.if_not rfl ?_
  refine KFB.if_not (by rw [hn]; rfl) ?_
  refine wpAny_bind (m := localGet env n) ?_
  unfold localGet
  refine wpAny_bind (wpAny_load e ?_)
  refine KFB.if_so rfl (nsGetE hD hl ?_)
  unfold loadGlobal
  refine wpAny_bind (wpAny_nsGet hg ?_)
  rw [hm]
  exact wpAny_pure h
end
end Mine
set_option tactic.hygienic false
open PySem PySem.W PySem.Calls PyProof.Rows
set_option Elab.async false
set_option maxRecDepth 100000
set_option maxHeartbeats 4000000
set_option linter.unusedVariables false
set_option linter.unusedSimpArgs false
namespace Mine
structure CB (g : Heap) (S : Addr → Bool) (P D : Addr) (h : Heap) (l : NL) : Prop where
  tab : ∃ ps, TabAt h P ps ∧ CodesOk (hid S P D h) six ps
  ns : NsL h D l
  le : Le g (hid S P D h)
  pd : P ≠ D
  new : ∀ b, h.get? b = none → S b = true
structure DefP where
  name : Str
  params : Arguments
  body : List Stmt
  scope : Scope
  pos : Pos
noncomputable abbrev DefP.stmt (d : DefP) : Stmt := .FunctionDef d.name d.params d.body [] none [] d.scope none d.name d.pos
noncomputable abbrev pmK : Value → Value := fun v => v
noncomputable def FnK (G : Heap) (f : Addr) (d : DefP) (q : Str) (clos : List (Str × Addr)) : Prop := ∃ cv ctv doc pm, G.get? f = some { cls := .type "function", data := .func (fnX d.name q d.params d.body d.scope clos .none .none doc pm none cv ctv) } ∧ G.CodeRec cv q
theorem FnK.mono {G G' : Heap} {f : Addr} {d : DefP} {q : Str} {clos : List (Str × Addr)} (k : Le G G') (x : FnK G f d q clos) : FnK G' f d q clos := let ⟨cv, ctv, doc, pm, e, r⟩ := x; ⟨cv, ctv, doc, pm, k _ _ e, r.keeps k⟩
section
variable {w : World} {M : Model} {A : Around} {E : Value → Shared → Prop} {s : Shared} {g : Heap} {env : Env} {c P D : Addr} {l : NL} {S : Addr → Bool}
theorem CB.store {h h' : Heap} {l' : NL} (X : CB g S P D h l) (hn : NsL h' D l') (b : Heap.SameBut D h h') : CB g S P D h' l' where
  tab := let ⟨ps, ⟨e, t⟩, K⟩ := X.tab; ⟨ps, ⟨(b.2 P X.pd).trans e, t⟩, K.mono (hid_le fun b' o _ q e => (b.2 b' q).trans e)⟩
  ns := hn
  le := X.le.trans (hid_le fun b' o _ q e => (b.2 b' q).trans e)
  pd := X.pd
  new := fun z e => X.new z (by
    by_cases q : z = D
    · obtain ⟨_, _, eD, _⟩ := hn; rw [q, eD] at e; cases e
    · rw [← b.2 z q]; exact e)
theorem cDef {d : DefP} {clos : List (Str × Addr)} {q : Str} {Q : Flow → Shared → Prop} (B : Base w g) (X : CB g S P D s.heap l) (hk : env.scope.kind = .class) (hl : env.locals = D) (hge : env.globals = mainGlobals) (hcode : env.code = .ref c) (C : CodeHd (hid S P D s.heap) c P)
    (hq : qualnameIn env d.name d.name = q) (r : (d.pos, q) ∈ six) (hcl : closureFor d.scope env = pure clos) (hn : env.kindOf d.name = some .local) (hd0 : d.params.defaults = []) (hk0 : d.params.kw_defaults = []) (ha : annTrees d.params none env = [])
    (h : ∀ h' tk f, CB g S P D h' (putL l d.name (.ref f)) → Le (hid tt P D s.heap) (hid tt P D h') → FnK (hid S P D h') f d q clos → Q .next { s with heap := h', toks := tk }) :
    wpAny M A (exec d.stmt env) Q E s := by
  obtain ⟨ps, T, K⟩ := X.tab
  obtain ⟨p, loose, me, mg, mb, TP⟩ := B.T
  have le0 : Le g s.heap := X.le.trans hid_sub
  obtain ⟨bm, ob, b1, b2, b3, b4, b5, b6⟩ := TP.bmain
  have hbP : bm ≠ P := (hid_of (X.le _ _ b3)).2.1
  have hgP : mainGlobals ≠ P := by obtain ⟨o, es, ep, e, _⟩ := TP.g; exact (hid_of (X.le _ _ e)).2.1
  have hbG : bm ≠ mainGlobals := fun e => by
    obtain ⟨o, es, ep, e', hd, _⟩ := TP.g
    rw [e, e'] at b3; cases b3; rw [hd] at b6; cases b6
  have hb : s.heap.BuiltinsAt mg P := ⟨bm, ob, b1, b2, hbG, hbP, le0 _ _ b3, b4, b5, b6⟩
  refine nestDef_K hd0 hk0 ha ?_
  rw [hq]
  have oD : ∃ o, s.heap.get? D = some o := by obtain ⟨_, _, e, _⟩ := X.ns; exact ⟨_, e⟩
  refine mkFn (D := D) r hcl hge (TP.g.keeps le0) hcode (C.keeps hid_sub) T K hgP hb oD X.new fun cv ctv doc f h₁ tk ps₁ k₁ T₁ K₁ C₁ e₁ n₁ => ?_
  have hns : NsL h₁ env.locals l := by obtain ⟨x, y, e, r⟩ := X.ns; exact ⟨x, y, by rw [hl]; exact k₁ _ _ X.pd.symm e, r⟩
  refine cStore hk (.inl hn) hns fun h₂ n₂ b₂ => ?_
  rw [hl] at n₂ b₂
  have kh₁ : Le (hid tt P D s.heap) (hid tt P D h₁) := hid_le fun b o q1 _ e => k₁ b o q1 e
  have kh₂ : Le (hid tt P D h₁) (hid tt P D h₂) := hid_le fun b o _ q2 e => (b₂.2 b q2).trans e
  have fP : f ≠ P := fun e => by rw [e, T.1] at n₁; cases n₁
  have fD : f ≠ D := fun e => by obtain ⟨o, eo⟩ := oD; rw [e, eo] at n₁; cases n₁
  have new₂ : ∀ b, h₂.get? b = none → S b = true := fun b e => X.new b (by
    by_cases q : b = D
    · obtain ⟨_, _, eD, _⟩ := n₂; rw [q, eD] at e; cases e
    · rw [b₂.2 b q] at e
      cases eq : s.heap.get? b with
      | none => rfl
      | some o =>
        by_cases q2 : b = P
        · rw [q2, T₁.1] at e; cases e
        · rw [k₁ b o q2 eq] at e; cases e)
  refine h h₂ _ f ⟨⟨ps₁, ⟨(b₂.2 P X.pd).trans T₁.1, T₁.2⟩, K₁.mono (hidS kh₂)⟩, n₂, X.le.trans (hidS (kh₁.trans kh₂)), X.pd, new₂⟩ (kh₁.trans kh₂) ⟨cv, ctv, doc, _, hid_get ((b₂.2 f fD).trans e₁) (X.new f n₁) fP fD, C₁.keeps (hidS kh₂)⟩
end
end Mine
set_option tactic.hygienic false
open PySem PySem.W PySem.Calls PyProof.Rows
set_option Elab.async false
set_option maxRecDepth 100000
set_option maxHeartbeats 4000000
set_option linter.unusedVariables false
set_option linter.unusedSimpArgs false
namespace Mine
section
variable {w : World} {A : Around} {E : Value → Shared → Prop} {s : Shared} {g : Heap} {env : Env} {c P D : Addr} {l : NL} {S : Addr → Bool}
theorem CB.le' {h h' : Heap} (X : CB g S P D h l) (k : Le h h') : CB g S P D h' l where
  tab := let ⟨ps, ⟨e, t⟩, K⟩ := X.tab; ⟨ps, ⟨k _ _ e, t⟩, K.mono (hid_le fun b' o _ _ e => k _ _ e)⟩
  ns := X.ns.mono k
  le := X.le.trans (hid_le fun b' o _ _ e => k _ _ e)
  pd := X.pd
  new := fun b e => X.new b (by
    cases q : h.get? b with
    | none => rfl
    | some o => rw [k _ _ q] at e; cases e)
theorem cStr {n x : Str} {k : Nat} {p p' pos : Pos} {Q : Flow → Shared → Prop} (X : CB g S P D s.heap l) (hk : env.scope.kind = .class) (hl : env.locals = D) (hn : env.kindOf n = some .local) (hs : swapsWith (.Constant (.str x) k p) (some (.Name n p')) pos.line env = pure false := by rfl)
    (h : ∀ h' tk t, CB g S P D h' (putL l n (.str x t)) → Le (hid tt P D s.heap) (hid tt P D h') → Q .next { s with heap := h', toks := tk }) : wpAny (model PR w) A (exec (.Assign [.Name n p'] (.Constant (.str x) k p) pos) env) Q E s := by
  refine wpAny_Assign_Name ?_ hs
  refine wpAny_Constant_str ?_
  refine cStore (l := l) hk (.inl hn) (hl ▸ X.ns) fun h' n' b' => ?_
  rw [hl] at n' b'
  exact h h' _ _ (X.store n' b') (hid_le fun b o _ q e => (b'.2 b q).trans e)
theorem cNone {n : Str} {k : Nat} {p p' pos : Pos} {Q : Flow → Shared → Prop} (X : CB g S P D s.heap l) (hk : env.scope.kind = .class) (hl : env.locals = D) (hn : env.kindOf n = some .local) (hs : swapsWith (.Constant .none k p) (some (.Name n p')) pos.line env = pure false := by rfl)
    (h : ∀ h' tk, CB g S P D h' (putL l n .none) → Le (hid tt P D s.heap) (hid tt P D h') → Q .next { s with heap := h', toks := tk }) : wpAny (model PR w) A (exec (.Assign [.Name n p'] (.Constant .none k p) pos) env) Q E s := by
  refine wpAny_Assign_Name ?_ hs
  refine wpAny_Constant_none ?_
  refine cStore (l := l) hk (.inl hn) (hl ▸ X.ns) fun h' n' b' => ?_
  rw [hl] at n' b'
  exact h h' _ (X.store n' b') (hid_le fun b o _ q e => (b'.2 b q).trans e)
theorem cSlots {n x : Str} {k : Nat} {p p' p'' pos : Pos} {Q : Flow → Shared → Prop} (X : CB g S P D s.heap l) (hk : env.scope.kind = .class) (hl : env.locals = D) (hn : env.kindOf n = some .local) (hs : swapsWith (.List [.Constant (.str x) k p] p'') (some (.Name n p')) pos.line env = pure false := by rfl)
    (h : ∀ h' tk t a, CB g S P D h' (putL l n (.ref a)) → (hid S P D h').IsList a #[.str x t] → Le (hid tt P D s.heap) (hid tt P D h') → Q .next { s with heap := h', toks := tk }) : wpAny (model PR w) A (exec (.Assign [.Name n p'] (.List [.Constant (.str x) k p] p'') pos) env) Q E s := by
  refine wpAny_Assign_Name ?_ hs
  refine List_ ?_
  refine args_cons (wpAny_Constant_str (args_nil ?_)) rfl
  refine wpAny_newObj_type ?_ (by show 1 ≤ sizeLine; rw [sizeLine_eq]; walk_at "om")
  have kp := le_push s.heap { cls := .type "list", data := .seq #[.str x s.toks] }
  have X' := X.le' kp
  refine cStore (l := l) hk (.inl hn) (hl ▸ X'.ns) fun h' n' b' => ?_
  rw [hl] at n' b'
  obtain ⟨_, _, eD, _⟩ := X.ns
  obtain ⟨_, ⟨eP, _⟩, _⟩ := X.tab
  have nD : s.heap.objs.size ≠ D := Nat.ne_of_gt (Heap.lt_size eD)
  have nP : s.heap.objs.size ≠ P := Nat.ne_of_gt (Heap.lt_size eP)
  refine h h' _ s.toks s.heap.objs.size (X'.store n' b') ⟨_, hid_get ((b'.2 _ nD).trans (Heap.get?_push_size _ rfl)) (X.new _ (fresh_size _)) nP nD, rfl, 0, rfl⟩ ((hid_le fun b o _ _ e => kp b o e).trans (hid_le fun b o _ q e => (b'.2 b q).trans e))
end
end Mine
set_option tactic.hygienic false
open PySem PySem.W PySem.Calls PyProof.Rows
set_option Elab.async false
set_option maxRecDepth 100000
set_option maxHeartbeats 4000000
set_option linter.unusedVariables false
set_option linter.unusedSimpArgs false
namespace Mine
structure DOk (env : Env) (d : DefP) (n q : Str) (clos : List (Str × Addr)) : Prop where
  name : d.name = n
  r : (d.pos, q) ∈ six
  hq : qualnameIn env n n = q
  hcl : closureFor d.scope env = pure clos
  hn : env.kindOf n = some .local
  hd0 : d.params.defaults = []
  hk0 : d.params.kw_defaults = []
  ha : annTrees d.params none env = []
noncomputable def bodyL0 (vm vq vf vs i lt gt eq le ge : Value) : NL := [(Str.ofString "__module__", vm), (Str.ofString "__qualname__", vq), (Str.ofString "__firstlineno__", vf), (Str.ofString "__slots__", vs), (Str.ofString "__init__", i), (Str.ofString "__lt__", lt), (Str.ofString "__gt__", gt),
  (Str.ofString "__eq__", eq), (Str.ofString "__le__", le), (Str.ofString "__ge__", ge), (Str.ofString "__hash__", .none)]
section
variable {w : World} {A : Around} {E : Value → Shared → Prop} {s : Shared} {g : Heap} {env : Env} {c P D : Addr} {l : NL} {S : Addr → Bool}
theorem next_then {env : Env} {st : Stmt} {rest : List Stmt} {Q : Flow → Shared → Prop} (h : wpAny (model PR w) A (exec st env) (fun f s' => f = .next ∧ wpAny (model PR w) A (execs rest env) Q E s') E s) : wpAny (model PR w) A (execs (st :: rest) env) Q E s :=
  wpAny_execs_cons (wpAny_mono h (fun f s' h' => by obtain ⟨rfl, h'⟩ := h'; exact h') fun _ _ e => e)
theorem cDef' {d : DefP} {n : Str} {clos : List (Str × Addr)} {q : Str} {Q : Flow → Shared → Prop} (B : Base w g) (X : CB g S P D s.heap l) (hk : env.scope.kind = .class) (hl : env.locals = D) (hge : env.globals = mainGlobals) (hcode : env.code = .ref c) (C : CodeHd (hid S P D s.heap) c P) (ok : DOk env d n q clos)
    (h : ∀ h' tk f, CB g S P D h' (putL l n (.ref f)) → Le (hid tt P D s.heap) (hid tt P D h') → FnK (hid S P D h') f d q clos → Q .next { s with heap := h', toks := tk }) :
    wpAny (model PR w) A (exec d.stmt env) Q E s := by
  obtain ⟨rfl, r, hq, hcl, hn, hd0, hk0, ha⟩ := ok
  exact cDef B X hk hl hge hcode C hq r hcl hn hd0 hk0 ha h
theorem cBody {d₁ d₂ d₃ d₄ d₅ d₆ : DefP} {q₁ q₂ q₃ q₄ q₅ q₆ xm : Str} {v₀ vq vf : Value} {k₁ k₂ k₃ : Nat} {p₁ p₂ p₃ p₄ p₅ p₆ p₇ p₈ p₉ pₓ : Pos} {clos : List (Str × Addr)} {Q : Flow → Shared → Prop}
    (B : Base w g) (X : CB g S P D s.heap [(Str.ofString "__module__", v₀), (Str.ofString "__qualname__", vq), (Str.ofString "__firstlineno__", vf)]) (hk : env.scope.kind = .class) (hl : env.locals = D) (hge : env.globals = mainGlobals) (hcode : env.code = .ref c) (C : CodeHd (hid S P D s.heap) c P)
    (o₁ : DOk env d₁ (Str.ofString "__init__") q₁ []) (o₂ : DOk env d₂ (Str.ofString "__lt__") q₂ clos) (o₃ : DOk env d₃ (Str.ofString "__gt__") q₃ clos) (o₄ : DOk env d₄ (Str.ofString "__eq__") q₄ clos) (o₅ : DOk env d₅ (Str.ofString "__le__") q₅ clos) (o₆ : DOk env d₆ (Str.ofString "__ge__") q₆ clos)
    (hm : env.kindOf (Str.ofString "__module__") = some .local) (hsl : env.kindOf (Str.ofString "__slots__") = some .local) (hh : env.kindOf (Str.ofString "__hash__") = some .local)
    (h : ∀ h' tk t to sl f₁ f₂ f₃ f₄ f₅ f₆, CB g S P D h' (bodyL0 (.str xm t) vq vf (.ref sl) (.ref f₁) (.ref f₂) (.ref f₃) (.ref f₄) (.ref f₅) (.ref f₆)) → Le (hid tt P D s.heap) (hid tt P D h') → (hid S P D h').IsList sl #[.str sObj to] →
      FnK (hid S P D h') f₁ d₁ q₁ [] → FnK (hid S P D h') f₂ d₂ q₂ clos → FnK (hid S P D h') f₃ d₃ q₃ clos → FnK (hid S P D h') f₄ d₄ q₄ clos → FnK (hid S P D h') f₅ d₅ q₅ clos → FnK (hid S P D h') f₆ d₆ q₆ clos → Q .next { s with heap := h', toks := tk }) :
    wpAny (model PR w) A (execs [.Assign [.Name (Str.ofString "__module__") p₁] (.Constant (.str xm) k₁ p₂) p₃, .Assign [.Name (Str.ofString "__slots__") p₄] (.List [.Constant (.str sObj) k₂ p₅] p₆) p₇,
      d₁.stmt, d₂.stmt, d₃.stmt, d₄.stmt, d₅.stmt, d₆.stmt, .Assign [.Name (Str.ofString "__hash__") p₈] (.Constant .none k₃ p₉) pₓ] env) Q E s := by
  refine next_then (cStr X hk hl hm rfl fun h1 tk1 t X1 L1 => ⟨rfl, ?_⟩)
  refine next_then (cSlots X1 hk hl hsl rfl fun h2 tk2 to sl X2 S2 L2 => ⟨rfl, ?_⟩)
  have C2 := C.keeps (hidS (L1.trans L2))
  refine next_then (cDef' B X2 hk hl hge hcode C2 o₁ fun h3 tk3 f₁ X3 L3 F3 => ⟨rfl, ?_⟩)
  have C3 := C2.keeps (hidS L3)
  refine next_then (cDef' B X3 hk hl hge hcode C3 o₂ fun h4 tk4 f₂ X4 L4 F4 => ⟨rfl, ?_⟩)
  have C4 := C3.keeps (hidS L4)
  refine next_then (cDef' B X4 hk hl hge hcode C4 o₃ fun h5 tk5 f₃ X5 L5 F5 => ⟨rfl, ?_⟩)
  have C5 := C4.keeps (hidS L5)
  refine next_then (cDef' B X5 hk hl hge hcode C5 o₄ fun h6 tk6 f₄ X6 L6 F6 => ⟨rfl, ?_⟩)
  have C6 := C5.keeps (hidS L6)
  refine next_then (cDef' B X6 hk hl hge hcode C6 o₅ fun h7 tk7 f₅ X7 L7 F7 => ⟨rfl, ?_⟩)
  have C7 := C6.keeps (hidS L7)
  refine next_then (cDef' B X7 hk hl hge hcode C7 o₆ fun h8 tk8 f₆ X8 L8 F8 => ⟨rfl, ?_⟩)
  refine next_then (cNone X8 hk hl hh rfl fun h9 tk9 X9 L9 => ⟨rfl, ?_⟩)
  refine wpAny_execs_nil ?_
  have M8 := L9
  have M7 := L8.trans M8
  have M6 := L7.trans M7
  have M5 := L6.trans M6
  have M4 := L5.trans M5
  have M3 := L4.trans M4
  have M2 := L3.trans M3
  have e : putL (putL (putL (putL (putL (putL (putL (putL (putL [(Str.ofString "__module__", v₀), (Str.ofString "__qualname__", vq), (Str.ofString "__firstlineno__", vf)] (Str.ofString "__module__") (.str xm t)) (Str.ofString "__slots__") (.ref sl)) (Str.ofString "__init__") (.ref f₁)) (Str.ofString "__lt__") (.ref f₂)) (Str.ofString "__gt__") (.ref f₃)) (Str.ofString "__eq__") (.ref f₄)) (Str.ofString "__le__") (.ref f₅)) (Str.ofString "__ge__") (.ref f₆)) (Str.ofString "__hash__") .none
      = bodyL0 (.str xm t) vq vf (.ref sl) (.ref f₁) (.ref f₂) (.ref f₃) (.ref f₄) (.ref f₅) (.ref f₆) := by kernel_rfl
  rw [e] at X9
  obtain ⟨oL, eL, cL, nL, dL⟩ := S2
  exact h h9 tk9 t to sl f₁ f₂ f₃ f₄ f₅ f₆ X9 (L1.trans (L2.trans M2)) ⟨oL, hidS M2 _ _ eL, cL, nL, dL⟩ (F3.mono (hidS M3)) (F4.mono (hidS M4)) (F5.mono (hidS M5)) (F6.mono (hidS M6)) (F7.mono (hidS M7)) (F8.mono (hidS M8))
end
end Mine
set_option tactic.hygienic false
open PySem PySem.W PySem.Calls PyProof.Rows
set_option Elab.async false
set_option maxRecDepth 100000
set_option maxHeartbeats 4000000
set_option linter.unusedVariables false
set_option linter.unusedSimpArgs false
namespace Mine
section
variable {w : World} {M : Model} {A : Around} {E : Value → Shared → Prop} {s : Shared} {g : Heap} {env : Env} {c P D : Addr}
theorem code_made {pos : Pos} {ps : Array Value} {make : CodeContext → Sem Value} {q : Str} {Q : Value → Shared → Prop} (hc : env.code = .ref c) (C : CodeHd s.heap c P) (T : TabAt s.heap P ps) (hn : codeAmong pos ps.toList = none)
    (mk : ∀ (x : CodeContext) (Q' : Value → Shared → Prop), (∀ c' P' h' tk, Le s.heap h' → s.heap.objs.size ≤ c' → s.heap.objs.size ≤ P' → h'.IsCode c' P' #[] → h'.TableAt c' P' #[] → h'.CodeRec (.ref c') q → Q' (.ref c') { s with heap := h', toks := tk }) → wpAny M A (make x) Q' E s)
    (k : ∀ c' P' h' tk, (∀ b o, b ≠ P → s.heap.get? b = some o → h'.get? b = some o) → s.heap.get? c' = none → s.heap.get? P' = none → CodeHd h' c' P' → TabAt h' P' #[] → h'.CodeRec (.ref c') q → TabAt h' P (ps ++ #[rawInt pos.line, rawInt pos.col, .ref c']) → Q (.ref c') { s with heap := h', toks := tk }) :
    wpAny M A (codeAt env pos make) Q E s := by
  obtain ⟨eP, tr⟩ := T
  obtain ⟨o, vs, file, tf, flags, tg, inF, text, tt, op, e1, e2, e3, e4, e5, e6, e7, e8, e9, _, _⟩ := C.code eP tr
  have hl : (ps ++ #[rawInt pos.line, rawInt pos.col, .ref c]).toList = ps.toList ++ [rawInt pos.line, rawInt pos.col, .ref c] := by simp
  unfold codeAt
  rw [hc]
  refine KFB.if_not rfl ?_
  refine wpAny_bind (wpAny_fieldsOf e1 e2 ?_)
  rw [e3, e4, e5, e6, e7]
  refine wpAny_bind (wpAny_fieldsOf e8 e9 ?_)
  rw [hn]
  refine wpAny_bind (mk _ _ fun c' P' h₁ tk k₁ f₁ f₂ i₁ t₁ r₁ => ?_)
  have eP₁ := k₁ _ _ e8
  have hP' : P' ≠ P := fun q => absurd (Heap.lt_size e8) (by rw [← q]; exact Nat.not_lt.mpr f₂)
  have hc' : c' ≠ P := fun q => absurd (Heap.lt_size e8) (by rw [← q]; exact Nat.not_lt.mpr f₁)
  refine wpAny_bind (wpAny_updateFieldsOfTheText eP₁ e9 ?_)
  have ed : (Obj.mapFields (fun vs => if (codeAmong pos vs.toList).isSome = true then vs else vs ++ #[rawInt pos.line, rawInt pos.col, .ref c']) op).data = .fields (ps ++ #[rawInt pos.line, rawInt pos.col, .ref c']) := by
    rw [Obj.data_mapFields e9, hn]; rfl
  have en := Heap.get?_update_self (h := h₁) (fun o => Obj.mapFields (fun vs => if (codeAmong pos vs.toList).isSome = true then vs else vs ++ #[rawInt pos.line, rawInt pos.col, .ref c']) o) eP₁ (Obj.isFreed_of_fields ed)
  have sb := Heap.SameBut.update (h := h₁) (a := P) (f := fun o => Obj.mapFields (fun vs => if (codeAmong pos vs.toList).isSome = true then vs else vs ++ #[rawInt pos.line, rawInt pos.col, .ref c']) o)
  refine wpAny_bind (wpAny_fieldsOf en ed ?_)
  have hl' : (ps ++ #[rawInt pos.line, rawInt pos.col, Value.ref c']).toList = ps.toList ++ [rawInt pos.line, rawInt pos.col, .ref c'] := by simp
  rw [hl', codeAmong_snoc _ tr hn]
  have hop : op = tabObj ps := by rw [eP] at e8; cases e8; rfl
  refine wpAny_pure (k c' P' _ tk (fun b o hb e => (sb.2 b hb).trans (k₁ b o e)) (fresh_ge f₁) (fresh_ge f₂) ?_ ⟨(sb.2 P' hP').trans t₁.2, trivial⟩ ?_ ⟨?_, ?_⟩)
  · obtain ⟨o, vs, file, tf, flags, tg, inF, text, tt, e, r⟩ := CodeHd.of i₁ t₁
    exact ⟨o, vs, file, tf, flags, tg, inF, text, tt, (sb.2 c' hc').trans e, r⟩
  · obtain ⟨c₁, o, vs, t, e, hg, r⟩ := r₁
    cases e
    exact ⟨_, o, vs, t, rfl, (sb.2 c' hc').trans hg, r⟩
  · refine en.trans ?_
    rw [hop]
    show some ({ cls := .none, data := .fields (if (codeAmong pos ps.toList).isSome = true then ps else ps ++ #[rawInt pos.line, rawInt pos.col, .ref c']) } : Obj) = _
    rw [hn]; rfl
  · rw [hl']; exact TriplesOk_snoc _ _ _ _ tr
theorem codeK {pc : Option Addr} {c : Addr} {firstLine : Nat} {name : Str} {scope : Scope} {Q : Value → Shared → Prop} (X : TabI g pc s.heap) (le : Le g s.heap) (off : ∀ p, pc = some p → g.get? p = none) (hc : env.code = .ref c) (C : CodeHd s.heap c 81)
    (k : ∀ cc P psC h' tk, (∀ b o, b ≠ 81 → s.heap.get? b = some o → h'.get? b = some o) → CodeHd h' cc P → h'.CodeRec (.ref cc) qK → TabAt h' P psC → CodesOk g six psC → (pc = some P ∨ pc = none ∧ s.heap.get? P = none) → (g.get? cc = none → s.heap.get? cc = none) → (CodeHd g cc P ∧ g.CodeRec (.ref cc) qK ∨ s.heap.get? cc = none) →
      (∃ ps, TabAt h' 81 ps ∧ codeAmong posK ps.toList = some (.ref cc)) → Q (.ref cc) { s with heap := h', toks := tk }) :
    wpAny M A (classCode env posK firstLine name qK scope) Q E s := by
  obtain ⟨ps, T, K⟩ := X.cls
  unfold classCode
  cases pc with
  | none =>
    refine code_made (q := qK) hc C T K (fun x Q' h => wpAny_newCodeX h) fun cc P h' tk hk f1 f2 H TP R T' => ?_
    refine k cc P #[] h' tk hk H R TP (fun r _ cv e => by cases e) (.inr ⟨rfl, f2⟩) (fun _ => f1) (.inr f1) ⟨_, T', ?_⟩
    have hl : (ps ++ #[rawInt posK.line, rawInt posK.col, Value.ref cc]).toList = ps.toList ++ [rawInt posK.line, rawInt posK.col, .ref cc] := by simp
    rw [hl]; exact codeAmong_snoc _ T.2 K
  | some p =>
    obtain ⟨cc, psC, h1, h2, h3, h4, h5⟩ := K
    refine wpAny_codeAt_hit hc (C.code T.1 T.2) h1 ?_
    exact k cc p psC s.heap s.toks (fun b o _ e => e) (h2.keeps le) (h3.keeps le) h4 h5 (.inl rfl) (fun e => by obtain ⟨o, vs, file, tf, flags, tg, inF, text, tt, e', _⟩ := h2; rw [e] at e'; cases e') (.inl ⟨h2, h3⟩) ⟨ps, T, h1⟩
end
end Mine
set_option tactic.hygienic false
open PySem PySem.W PySem.Calls PyProof.Rows
set_option Elab.async false
set_option maxRecDepth 100000
set_option maxHeartbeats 40000000
set_option linter.unusedVariables false
set_option linter.unusedSimpArgs false
namespace Mine
noncomputable def scK : Scope := { kind := .class, names := [(Str.ofString "__module__", .local), (Str.ofString "__slots__", .local), (Str.ofString "__init__", .local), (Str.ofString "__lt__", .local), (Str.ofString "__gt__", .local), (Str.ofString "__eq__", .local), (Str.ofString "__le__", .local), (Str.ofString "__ge__", .local), (Str.ofString "__hash__", .local), (Str.ofString "mycmp", .free)], isGenerator := false, isCoroutine := false, more := [] }
noncomputable def kEnv (D cc fr : Addr) (clos : List (Str × Addr)) : Env := { scope := scK, locals := D, globals := mainGlobals, cells := clos, qual := qK ++ Str.ofString ".", code := .ref cc, frame := some fr, builtins := builtinsNs }
section
variable {w : World} {A : Around} {env : Env} {s : Shared} {E : Value → Shared → Prop} {Q : Value → Shared → Prop} {g : Heap} {pc : Option Addr} {c : Addr}
theorem f_dget : typeLookup (.type "dict") "__getitem__" = pure (some (.builtin "dict.__getitem__")) := by rw [typeLookup_type, builtinLookup_eq_fast]; kernel_rfl
theorem newObjV {M : Model} {T : String} {data : Data} {dict : Option Addr} {Q : Value → Shared → Prop} (h : ∀ a h', a = s.heap.objs.size → h' = s.heap.push { cls := .type T, dict, data } → Q (.ref a) { s with heap := h' }) (hd : sizeOk data) : wpAny M A (newObj (.type T) data dict) Q E s := wpAny_newObj_type (h _ _ rfl rfl) hd
theorem prep_getV {Q : Option Value → Shared → Prop} (h : ∀ a h', a = s.heap.objs.size → h' = s.heap.push prepO → Q (some (.ref a)) { s with heap := h', toks := s.toks + 1 }) : wpAny (model PR w) A (getAttr? (.type "type") "__prepare__") Q E s := prep_get (h _ _ rfl rfl)
theorem prep_callV {x : Addr} {n b : Value} {Q : Value → Shared → Prop} (ho : s.heap.get? x = some prepO) (h : ∀ a h', a = s.heap.objs.size → h' = s.heap.push { cls := .type "dict", data := .dict #[] } → Q (.ref a) { s with heap := h' }) : wpAny (model PR w) A (call (.ref x) [n, b] []) Q E s := prep_call ho (h _ _ rfl rfl)
theorem bclass {d₁ d₂ d₃ d₄ d₅ d₆ : DefP} {q₁ q₂ q₃ q₄ q₅ q₆ xm : Str} {k₁ k₂ k₃ : Nat} {p₁ p₂ p₃ p₄ p₅ p₆ p₇ p₈ p₉ pₓ : Pos} {clos : List (Str × Addr)} {firstLine : Nat} {body : List Stmt}
    (hbody : body = [.Assign [.Name (Str.ofString "__module__") p₁] (.Constant (.str xm) k₁ p₂) p₃, .Assign [.Name (Str.ofString "__slots__") p₄] (.List [.Constant (.str sObj) k₂ p₅] p₆) p₇,
      d₁.stmt, d₂.stmt, d₃.stmt, d₄.stmt, d₅.stmt, d₆.stmt, .Assign [.Name (Str.ofString "__hash__") p₈] (.Constant .none k₃ p₉) pₓ])
    (B : Base w g) (le : Le g s.heap) (MR : MuRel g (some (.tab pc)) s.heap) (hc : env.code = .ref c) (C : CodeHd g c 81) (hge : env.globals = mainGlobals) (hcl : closureFor scK env = pure clos) (dp : A.depth < recursionLimit)
    (o₁ : ∀ D cc fr, DOk (kEnv D cc fr clos) d₁ (Str.ofString "__init__") q₁ []) (o₂ : ∀ D cc fr, DOk (kEnv D cc fr clos) d₂ (Str.ofString "__lt__") q₂ clos) (o₃ : ∀ D cc fr, DOk (kEnv D cc fr clos) d₃ (Str.ofString "__gt__") q₃ clos)
    (o₄ : ∀ D cc fr, DOk (kEnv D cc fr clos) d₄ (Str.ofString "__eq__") q₄ clos) (o₅ : ∀ D cc fr, DOk (kEnv D cc fr clos) d₅ (Str.ofString "__le__") q₅ clos) (o₆ : ∀ D cc fr, DOk (kEnv D cc fr clos) d₆ (Str.ofString "__ge__") q₆ clos)
    (hann : hasAnns body = false) (hdoc : docOf body = none)
    (k : ∀ a N md cc P D psC S f₁ f₂ f₃ f₄ f₅ f₆ H tk, (∀ b, S b = ((g.get? b).isSome || (s.heap.get? b).isNone)) → ClsAt H a N md f₁ f₂ f₃ f₄ f₅ f₆ → s.heap.get? a = none → s.heap.get? N = none → s.heap.get? md = none → s.heap.get? D = none → a ≠ P → N ≠ P → md ≠ P →
      (∀ b o, b ≠ 81 → pc ≠ some b → s.heap.get? b = some o → H.get? b = some o) → TabAt H P psC → CodesOk (hid S P D H) six psC → (pc = some P ∨ pc = none ∧ s.heap.get? P = none) → CodeHd (hid S P D H) cc P → (hid S P D H).CodeRec (.ref cc) qK →
      (∃ ps, TabAt H 81 ps ∧ codeAmong posK ps.toList = some (.ref cc)) → FnK (hid S P D H) f₁ d₁ q₁ [] → FnK (hid S P D H) f₂ d₂ q₂ clos → P ≠ 81 → Q (.ref a) { s with heap := H, toks := tk })
    : wpAny (model PR w) A (buildClass sK qK [.type "object"] [] body scK [sObj] firstLine env posK none) Q E s := by
  subst hbody
  obtain ⟨S, hS⟩ : ∃ S : Addr → Bool, S = fun b => (g.get? b).isSome || (s.heap.get? b).isNone := ⟨_, rfl⟩
  obtain ⟨pp, loose, me, mg, mb, TP⟩ := id B.T
  obtain ⟨bm, ob, b1, b2, b3, b4, b5, b6⟩ := TP.bmain
  unfold buildClass
  refine wpAny_bind (newObjV (fun Bt h₀ hBt hh₀ => ?_) (by show 1 ≤ sizeLine; rw [sizeLine_eq]; walk_at "om"))
  refine wpAny_bind (forIn_one (wpAny_bind (wpAny_of_eq (a := true) rfl ?_)))
  refine KFB.if_so rfl ?_
  refine ifp_not (by decide) (wpAny_pure ?_)
  refine wpAny_bind (m := typeOf (.type "object")) (wpAny_of_eq ty_object ?_)
  refine wpAny_bind (wpAny_of_eq (a := true) rfl ?_)
  refine KFB.if_so rfl ?_
  refine wpAny_bind (m := forIn ([.type "object"] : List Value) _ _) (forIn_one (wpAny_bind (wpAny_of_eq ty_object ?_)))
  refine wpAny_bind (wpAny_of_eq sub_type ?_)
  refine KFB.if_so rfl ?_
  refine wpAny_pure ?_
  refine wpAny_bind (m := mkText sK) (wpAny_mkText ?_)
  refine KFB.if_not rfl ?_
  refine wpAny_bind (m := pure (Value.ref Bt)) (wpAny_pure ?_)
  refine wpAny_holding ?_
  refine wpAny_bind (m := getAttr? (.type "type") (Str.ofString "__prepare__")) (prep_getV fun y h₁ hy hh₁ => ?_)
  refine wpAny_bind (prep_callV (by show h₁.get? y = _; rw [hh₁, hy]; exact Heap.get?_push_size _ rfl) fun D h₂ hD hh₂ => ?_)
  replace hD : D = h₁.objs.size := hD
  replace hh₂ : h₂ = h₁.push { cls := .type "dict", data := .dict #[] } := hh₂
  replace hh₁ : h₁ = h₀.push prepO := hh₁
  have kp₁ : Le s.heap h₁ := by rw [hh₁, hh₀]; exact (le_push _ _).trans (le_push _ _)
  have kp₂ : Le h₁ h₂ := hh₂ ▸ le_push _ _
  have eBt : h₁.get? Bt = some { cls := .type "tuple", data := .seq #[.type "object"] } := by rw [hh₁, hh₀, hBt]; exact Heap.get?_push_of_some _ (Heap.get?_push_size _ rfl)
  have eD : h₂.get? D = some { cls := .type "dict", data := .dict #[] } := by rw [hh₂, hD]; exact Heap.get?_push_size _ rfl
  show wpAny _ _ _ _ _ { s with heap := h₂, toks := s.toks + 1 + 1 }
  have X : TabI g pc s.heap := MR.ok
  have kp : Le s.heap h₂ := kp₁.trans kp₂
  have nD : s.heap.get? D = none := by
    cases e : s.heap.get? D with
    | none => rfl
    | some o => exact absurd (kp₁ _ _ e) (by rw [hD, fresh_size]; nofun)
  have X₂ : TabI g pc h₂ := X.keep (.refl g) fun b _ o e => kp _ _ e
  refine wpAny_bind (m := notTheModulesDict "class:the-namespace-that-__prepare__-gave" D) ?_
  unfold notTheModulesDict
  have Dm : D ≠ sysModules := fun q => by
    obtain ⟨o, e⟩ := MR.there 81 (.inl rfl)
    have := Heap.lt_size (kp₁ _ _ e)
    rw [← hD, q] at this
    exact absurd this (by decide)
  refine KFB.if_not (by simpa using Dm) (wpAny_pure ?_)
  refine wpAny_bind (m := specialOf (.ref D) (Str.ofString "__getitem__")) (wpAny_specialOf (T := "dict") ⟨_, eD, rfl⟩ f_dget ?_)
  refine KFB.if_not rfl ?_
  refine wpAny_holding ?_
  refine KFB.if_not rfl ?_
  refine wpAny_bind (wpAny_pure ?_)
  refine KFB.if_not rfl ?_
  refine wpAny_bind (wpAny_pure ?_)
  refine wpAny_bind (m := classCode env posK firstLine sK qK scK) (codeK X₂ (le.trans kp) (fun p e => MR.off p (.inr (.inr (.inr e)))) hc (C.keeps (le.trans kp)) fun cc P psC h₃ tk₃ k₃ H₃ R₃ T₃ K₃ oP₃ nc₃ oc₃ T81 => ?_)
  have n81 : g.get? 81 = none := MR.off 81 (.inl rfl)
  have leg₂ : Le g h₂ := le.trans kp
  have leg₃ : Le g h₃ := fun b o e => k₃ b o (fun q => by rw [q, n81] at e; cases e) (leg₂ b o e)
  have D81 : D ≠ 81 := fun q => by obtain ⟨o, e⟩ := MR.there 81 (.inl rfl); rw [← q, nD] at e; cases e
  have hg₃ := TP.g.keeps leg₃
  rw [hge]
  refine wpAny_bind (m := builtinsFor mainGlobals env.builtins) (wpAny_builtinsFor hg₃ b1 b2 (leg₃ _ _ b3) b4 b5 b6 ?_)
  refine wpAny_bind (m := newBodyFrame (.ref cc) mainGlobals D builtinsNs) ?_
  unfold newBodyFrame
  refine wpAny_bind (wpAny_nsGet hg₃ ?_)
  refine wpAny_alloc ?_
  obtain ⟨fo, hfo⟩ : ∃ fo : Obj, fo = { cls := .type "frame", slots := #[some (.ref cc), some (.ref mainGlobals), some (.ref D), none, some ((mg "__name__").getD .none), none, some (.ref builtinsNs)] } := ⟨_, rfl⟩
  refine wpAny_bind (m := closureFor scK env) (wpAny_of_eq hcl ?_)
  refine wpAny_holding ?_
  have kp₄ := le_push h₃ fo
  have leg₄ : Le g (h₃.push fo) := leg₃.trans kp₄
  rw [← hfo]
  generalize h₃.objs.size = fr
  generalize hh₄ : h₃.push fo = h₄ at kp₄ leg₄
  refine wpAny_bind (m := enterFrame) (wpAny_enterFrame (TP.nolimit.keeps leg₄) dp ?_)
  have hSb : ∀ b, S b = ((g.get? b).isSome || (s.heap.get? b).isNone) := fun b => by rw [hS]
  have k₄ : ∀ b o, b ≠ 81 → h₂.get? b = some o → h₄.get? b = some o := fun b o q e => kp₄ _ _ (k₃ b o q e)
  have PD : P ≠ D := fun q => by
    rcases oP₃ with e | ⟨_, e⟩
    · obtain ⟨o, eo⟩ := MR.there P (.inr (.inr (.inr e))); rw [q, nD] at eo; cases eo
    · rw [q, eD] at e; cases e
  have gP : g.get? P = none := by
    rcases oP₃ with e | ⟨_, e⟩
    · exact MR.off P (.inr (.inr (.inr e)))
    · exact leg₂.none e
  have leS : Le g (hid S P D h₄) := fun b o e => hid_get (leg₄ b o e) (by rw [hSb, e]; rfl) (fun q => by rw [q, gP] at e; cases e) (fun q => by rw [q, le.none nD] at e; cases e)
  have new₄ : ∀ b, h₄.get? b = none → S b = true := fun b e => by
    rw [hSb]
    cases q : s.heap.get? b with
    | none => exact Bool.or_true _
    | some o =>
      by_cases q2 : b = 81
      · obtain ⟨ps, ⟨e81, _⟩, _⟩ := T81; rw [q2, kp₄ _ _ e81] at e; cases e
      · rw [k₄ b o q2 (kp _ _ q)] at e; cases e
  have Scc : S cc = true := by
    rw [hSb]
    rcases oc₃ with ⟨H, _⟩ | e
    · obtain ⟨o, vs, file, tf, flags, tg, inF, text, tt, e', _⟩ := H; rw [e']; rfl
    · have : s.heap.get? cc = none := kp.none e
      rw [this]; exact Bool.or_true _
  have ccP : cc ≠ P := by obtain ⟨o, vs, file, tf, flags, tg, inF, text, tt, e, _, _, _, _, _, _, _, _, r⟩ := H₃; exact r
  have ccD : cc ≠ D := fun q => by
    obtain ⟨o, vs, file, tf, flags, tg, inF, text, tt, e, ec, _⟩ := H₃
    rw [q, k₃ _ _ D81 eD] at e; cases e; exact absurd ec (by simp)
  have C₄ : CodeHd (hid S P D h₄) cc P := by
    obtain ⟨o, vs, file, tf, flags, tg, inF, text, tt, e, r⟩ := H₃
    exact ⟨o, vs, file, tf, flags, tg, inF, text, tt, hid_get (kp₄ _ _ e) Scc ccP ccD, r⟩
  have CB₀ : CB g S P D h₄ [] := ⟨⟨psC, ⟨kp₄ _ _ T₃.1, T₃.2⟩, K₃.mono leS⟩, ⟨#[], _, kp₄ _ _ (k₃ _ _ D81 eD), .nil⟩, leS, PD, new₄⟩
  have hmn := mg_of B.K TP.g (n := Str.ofString "__name__") (by rfl)
  refine wpAny_bind (wpAny_onRaise (wpAny_bind (m := loadName (kEnv D cc fr clos) (Str.ofString "__name__")) (cLoadNone rfl rfl rfl CB₀.ns rfl (TP.g.keeps leg₄) hmn ?_)))
  refine wpAny_bind (m := storeName (kEnv D cc fr clos) (Str.ofString "__module__") _) (cStore rfl (.inl rfl) CB₀.ns fun h₅ n₅ b₅ => ?_)
  refine wpAny_bind (m := mkText qK) (wpAny_mkText ?_)
  have CB₅ := CB₀.store n₅ b₅
  refine wpAny_bind (m := storeName (kEnv D cc fr clos) (Str.ofString "__qualname__") _) (cStore rfl (.inr ⟨rfl, rfl⟩) CB₅.ns fun h₆ n₆ b₆ => ?_)
  have CB₆ := CB₅.store n₆ b₆
  refine wpAny_bind (m := mkInt firstLine) (wpAny_mkInt ?_)
  refine wpAny_bind (m := storeName (kEnv D cc fr clos) (Str.ofString "__firstlineno__") _) (cStore rfl (.inr ⟨rfl, rfl⟩) CB₆.ns fun h₇ n₇ b₇ => ?_)
  have CB₇ := CB₆.store n₇ b₇
  have L₇ : Le (hid tt P D h₄) (hid tt P D h₇) := hid_le fun b o _ q e => (b₇.2 b q).trans ((b₆.2 b q).trans ((b₅.2 b q).trans e))
  refine wpAny_pure ?_
  have C₇ := C₄.keeps (hidS L₇)
  refine wpAny_bind (m := run (.body _ (kEnv D cc fr clos))) (wpAny_run (codeAny_body hann hdoc (cBody B CB₇ rfl rfl rfl rfl C₇ (o₁ _ _ _) (o₂ _ _ _) (o₃ _ _ _) (o₄ _ _ _) (o₅ _ _ _) (o₆ _ _ _) rfl rfl rfl fun h₈ tk₈ t₈ to sl f₁ f₂ f₃ f₄ f₅ f₆ CB₈ L₈ IL F₁ F₂ F₃ F₄ F₅ F₆ => ?_)))
  refine wpAny_bind (wpAny_onRaise (wpAny_bind (m := List.mapM mkText [sObj]) (wpAny_mkStrs fun vs => ?_)))
  refine wpAny_bind (m := newTextTuple vs) (wpAny_newTextTuple ?_)
  have kp₉ := le_push h₈ { cls := .type "tuple", data := .seq vs.toArray }
  have CB₉ := CB₈.le' kp₉
  refine wpAny_bind (m := storeName (kEnv D cc fr clos) (Str.ofString "__static_attributes__") _) (cStore rfl (.inr ⟨rfl, rfl⟩) CB₉.ns fun hA nA bA => ?_)
  have CBA := CB₉.store nA bA
  have LA : Le (hid tt P D h₈) (hid tt P D hA) := (hid_le fun b o _ _ e => kp₉ b o e).trans (hid_le fun b o _ q e => (bA.2 b q).trans e)
  refine wpAny_pure ?_
  refine KFB.if_not rfl ?_
  have P81 : P ≠ 81 := by
    rcases oP₃ with r | ⟨_, r⟩
    · exact (X.pcne P r).1
    · intro q
      obtain ⟨ps, ⟨a1, _⟩, _⟩ := X₂.cls
      rw [q, a1] at r; cases r
  have R₄ : (hid S P D h₄).CodeRec (.ref cc) qK := codeRec_freeze (h := s.heap) R₃ fun c e o ho => by cases e; exact hid_get (kp₄ _ _ ho) Scc ccP ccD
  have LZ : Le (hid tt P D h₄) (hid tt P D hA) := L₇.trans (L₈.trans LA)
  have BtP : Bt ≠ P := fun q => by
    rcases oP₃ with e | ⟨_, e⟩
    · obtain ⟨o, eo⟩ := MR.there P (.inr (.inr (.inr e))); rw [← q, hBt, fresh_size] at eo; cases eo
    · rw [← q, kp₂ _ _ eBt] at e; cases e
  have BtD : Bt ≠ D := fun q => by have := eBt; rw [q, hD, fresh_size] at this; cases this
  have Bt81 : Bt ≠ 81 := fun q => by obtain ⟨o, e⟩ := MR.there 81 (.inl rfl); rw [← q, hBt, fresh_size] at e; cases e
  have eBtA : hA.get? Bt = some { cls := .type "tuple", data := .seq #[.type "object"] } := (hid_of (LZ _ _ (hid_get (k₄ _ _ Bt81 (kp₂ _ _ eBt)) rfl BtP BtD))).1
  have hst : hA.get? h₈.objs.size = some { cls := .type "tuple", data := .seq vs.toArray } := (bA.2 _ (by obtain ⟨_, _, e, _⟩ := CB₈.ns; exact Nat.ne_of_gt (Heap.lt_size e))).trans (Heap.get?_push_size _ rfl)
  have fnA : ∀ f d q cl, FnK (hid S P D h₈) f d q cl → ∃ o, hA.get? f = some o ∧ o.cls = .type "function" := fun f d q cl x => by
    obtain ⟨cv, ctv, doc, pm, e, _⟩ := x
    exact ⟨_, (hid_of (hidS LA _ _ e)).1, rfl⟩
  have domA : ∀ b, hA.get? b = none → s.heap.get? b = none := fun b e => by
    have := CBA.new b e
    rw [hSb] at this
    cases q : g.get? b with
    | none => rw [q] at this; simpa using this
    | some o => rw [(hid_of (CBA.le _ _ q)).1] at e; cases e
  obtain ⟨psA, TA, KA⟩ := CBA.tab
  have noP : ∀ b, hA.get? b = none → b ≠ P := fun b e q => by rw [q, TA.1] at e; cases e
  have e81 : ∃ ps, TabAt hA 81 ps ∧ codeAmong posK ps.toList = some (.ref cc) := by
    obtain ⟨ps, ⟨a1, a2⟩, a3⟩ := T81
    exact ⟨ps, ⟨(hid_of (LZ _ _ (hid_get (kp₄ _ _ a1) rfl P81.symm D81.symm))).1, a2⟩, a3⟩
  refine wpAny_bind (m := call (.type "type") [.str sK _, .ref Bt, .ref D] []) (type_call fun A' P' hk' => ?_)
  refine tnew (t := _) (sl := sl) (st := h₈.objs.size) CBA.ns ⟨0, eBtA⟩ (to := to) ?_ ⟨_, hst, rfl⟩ ?_ Dm (((B.K.keeps leS).keeps (hidS LZ)).keeps hid_sub) fun a N md H tk CA LH fa fN fmd => ?_
  · obtain ⟨oL, eL, cL, nL, dL⟩ := IL
    exact ⟨oL, (hid_of (hidS LA _ _ eL)).1, cL, nL, dL⟩
  · intro f hf
    simp only [List.mem_cons, List.not_mem_nil, or_false] at hf
    rcases hf with rfl | rfl | rfl | rfl | rfl | rfl
    · exact fnA _ _ _ _ F₁
    · exact fnA _ _ _ _ F₂
    · exact fnA _ _ _ _ F₃
    · exact fnA _ _ _ _ F₄
    · exact fnA _ _ _ _ F₅
    · exact fnA _ _ _ _ F₆
  · have LHt : Le (hid S P D hA) (hid S P D H) := hid_le fun b o _ _ e => LH b o e
    refine hk' a _ ?_ (wpAny_pure (k a N md cc P D psA S f₁ f₂ f₃ f₄ f₅ f₆ H tk hSb CA (domA a fa) (domA N fN) (domA md fmd) nD (noP a fa) (noP N fN) (noP md fmd) (fun b o h1 h2 e => ?_) ⟨LH _ _ TA.1, TA.2⟩ (KA.mono LHt) ?_ ((C₇.keeps (hidS (L₈.trans LA))).keeps LHt) ?_ ?_ (F₁.mono ((hidS LA).trans LHt)) (F₂.mono ((hidS LA).trans LHt)) ?_))
    · obtain ⟨t, vm, vf, vs, st, sl, e, _⟩ := CA.at_; exact ⟨_, e, rfl⟩
    · have bP : b ≠ P := fun q => by
        rcases oP₃ with r | ⟨_, r⟩
        · exact h2 (q ▸ r)
        · rw [q] at e; rw [kp _ _ e] at r; cases r
      have bD : b ≠ D := fun q => by rw [q, nD] at e; cases e
      exact LH _ _ (hid_of (LZ _ _ (hid_get (k₄ _ _ h1 (kp _ _ e)) rfl bP bD))).1
    · rcases oP₃ with r | ⟨rp, r⟩
      · exact .inl r
      · exact .inr ⟨rp, kp.none r⟩
    · exact (R₄.keeps (hidS LZ)).keeps LHt
    · obtain ⟨ps, ⟨a1, a2⟩, a3⟩ := e81; exact ⟨ps, ⟨LH _ _ a1, a2⟩, a3⟩
    · exact P81
end
end Mine
set_option tactic.hygienic false
open PySem PySem.W PySem.Calls PyProof.Rows
set_option Elab.async false
set_option maxRecDepth 100000
set_option maxHeartbeats 4000000
set_option linter.unusedVariables false
set_option linter.unusedSimpArgs false
namespace Mine
section
variable {w : World} {A : Around} {env : Env} {s : Shared} {E : Value → Shared → Prop}
theorem exec_cls {Q : Flow → Shared → Prop} {name bind : Str} {b : Expr} {body : List Stmt} {scope : Scope} {x1 : Option Scope} {statics : List Str} {pos : Pos} {mb : Str → Option Value} (hbn : s.heap.Ns env.builtins mb) (hbc : mb "__build_class__" = some (.builtin "__build_class__"))
    (h : wpAny (model PR w) A (spliced (backTo pos (starEach [b] env))) (fun vs s₁ => wpAny (model PR w) A (buildClass name (qualnameIn env name bind) vs [] body scope statics pos.line env pos none) (fun c s₂ => wpAny (model PR w) A (storeName env bind c) (fun _ s₃ => Q .next s₃) E s₂) E s₁) E s) :
    wpAny (model PR w) A (exec (.ClassDef name [b] [] body [] [] scope x1 bind statics pos) env) Q E s := by
  rw [arm_exec_ClassDef]
  refine wpAny_bind (m := evalAll []) (wpAny_pure ?_)
  refine wpAny_bind (wpAny_standAt ?_)
  refine wpAny_bind (m := buildClassGuard env) ?_
  unfold buildClassGuard
  refine wpAny_bind (wpAny_nsGet hbn ?_)
  rw [hbc]
  refine wpAny_pure ?_
  refine wpAny_bind (wpAny_holding ?_)
  refine wpAny_bind (m := evalArgs (.builtin "__build_class__") false (backTo pos (starEach [b] env)) (backToKw pos (keywordEach [] env))) ?_
  unfold evalArgs
  refine wpAny_bind (wpAny_mono h (fun vs s₁ h₁ => ?_) fun _ _ e => e)
  refine wpAny_bind (m := pure (vs, none)) (wpAny_pure ?_)
  refine wpAny_holding ?_
  refine KFB.if_so rfl ?_
  refine wpAny_bind (m := evalAll []) (wpAny_pure ?_)
  refine wpAny_bind (m := pure vs) (wpAny_pure (wpAny_pure ?_))
  refine wpAny_bind (wpAny_standAt (wpAny_holding ?_))
  refine wpAny_mono h₁ (fun c s₂ h₂ => ?_) fun _ _ e => e
  refine wpAny_bind (m := decorate [] c) (wpAny_pure ?_)
  refine wpAny_bind (wpAny_standAt ?_)
  exact wpAny_bind (wpAny_bindName (wpAny_mono h₂ (fun _ s₃ h₃ => wpAny_pure h₃) fun _ _ e => e))
end
end Mine
set_option tactic.hygienic false
open PySem PySem.W PySem.Calls PyProof.Rows
set_option Elab.async false
set_option maxRecDepth 100000
set_option maxHeartbeats 4000000
set_option linter.unusedVariables false
set_option linter.unusedSimpArgs false
namespace Mine
section
variable {w : World} {g : Heap} {μ : Mu} {P : Heap → AV → Mu → Prop}
theorem CX.topCF {n : Nat} {f : Addr} {name qual : Str} {params : Arguments} {body : List Stmt} {scope : Scope} {dV kV doc pm cdv ct oc : Value} {an od : Option Addr} {osl : Array (Option Value)} {args : List AV} {ρ₀ : Vars} {names : List Str}
    (hK : (KF w).lookup f = some ⟨oc, od, .func (fnOf name qual params body scope dV kV doc pm an cdv ct), osl⟩) (hcd : codeIn (KF w) cdv qual = true)
    (hb : ∀ (vs : List Value), RVs g args vs → ∃ binds, bindArgs (fnOf name qual params body scope dV kV doc pm an cdv ct) ⟨vs, []⟩ = pure binds ∧ binds.map (·.1) = names ∧ RVs g (ρ₀.map (·.2)) (binds.map (·.2)))
    (hnm : ρ₀.map (·.1) = names) (nd : names.Nodup) (hk : ∀ L, KindOk scope L names)
    (h : ∀ A L, Room A n → SX w A (callEnvC (fnOf name qual params body scope dV kV doc pm an cdv ct) L f) body g ρ₀ μ fun g' fl ρ' μ' => ∀ g'', Le g' g'' → (∀ x a, ρ'.lookup x = some a → scope.names.lookup x = some .cell → ∃ c v, (callEnvC (fnOf name qual params body scope dV kV doc pm an cdv ct) L f).cells.lookup x = some c ∧ g''.IsCell c (some v) ∧ RV g'' a v) → P g'' (retOf fl) μ')
    (hco : scope.isCoroutine = false := by rfl) (hgen : scope.isGenerator = false := by rfl) (hkd : scope.kind = .function := by rfl) : CX w (n + 1) (.ref f) args g μ P := by
  intro A s E Q vs Rm B le M r k
  obtain ⟨p, l, me, mg, mb, T⟩ := B.T
  obtain ⟨binds, hb1, hb2, hb3⟩ := hb vs r
  have hkk := hk s.heap.objs.size
  refine wpAny_call (codeAny_call_cells (by have := Rm.dp; walk_at "om") (le _ _ (B.K _ _ hK)) rfl ((T.nolimit).keeps le) ((codeRec_of B.K hcd).keeps le) rfl hb1 rfl (fun x hx => ?_) (fun s₁ x => ?_) hco hgen hkd)
  · exact hkk.mem (hb2 ▸ List.mem_map_of_mem hx)
  obtain ⟨R₁, nown⟩ := Rel.enterC (w := w) (ρ₀ := ρ₀) B le M hkd rfl rfl rfl x (hb2.trans hnm.symm) hb3 (hnm ▸ nd) (fun y hy hyk => by
    rcases hkk.mem (hnm ▸ hy) with q | q
    · exact absurd ((show scope.names.lookup y = some .cell from hyk).symm.trans q) nofun
    · exact q.2) (fun y hy hyk => by
    rcases hkk.mem (hnm ▸ hy) with q | q
    · exact absurd ((show scope.names.lookup y = some .free from hyk).symm.trans q) nofun
    · exact absurd ((show scope.names.lookup y = some .free from hyk).symm.trans q.1) nofun)
  obtain ⟨h₁, tk₁, rfl, kp⟩ := x.done
  have kd : ∀ b o, s.heap.get? b = some o → ∃ o', h₁.get? b = some o' := fun b o e => ⟨o, kp b o e⟩
  refine h _ _ (Rm.deeper _) _ _ _ R₁ fun g' fl' ρ' μ' fl h' tk p b R r => ?_
  have bk : Bk w noF μ g s.heap μ' g' h' := ⟨⟨b.st.le, fun b' o e => (b.st.fresh b' o e).imp id fun q => dom_none kd q, fun b' o e _ m => b.st.kp b' o (kp _ _ e) (nown b' o e) m, fun b' o e => b.st.dom b' o (kp _ _ e), fun b' m => (b.st.mu b' m).imp id fun q => dom_none kd q⟩, b.le, b.mu⟩
  obtain ⟨S, hS⟩ : ∃ S : Addr → Bool, S = fun b => scope.names.any fun q => scope.names.lookup q.1 == some .cell && (callEnvC (fnOf name qual params body scope dV kV doc pm an cdv ct) s.heap.objs.size f).cells.lookup q.1 == some b := ⟨_, rfl⟩
  have hS1 : ∀ b, S b = true → s.heap.get? b = none ∧ ¬ mad μ' b := fun b hb => by
    rw [hS] at hb
    obtain ⟨q, _, hq⟩ := List.any_eq_true.mp hb
    rw [Bool.and_eq_true, beq_iff_eq, beq_iff_eq] at hq
    have ow : own (callEnvC (fnOf name qual params body scope dV kV doc pm an cdv ct) s.heap.objs.size f) b := .inr ⟨q.1, hq.1, hq.2⟩
    refine ⟨?_, fun m => (R.muOff b m).1 ow⟩
    cases e : s.heap.get? b with
    | none => rfl
    | some o => exact absurd ow (nown b o e)
  obtain ⟨g'', bk', l'', hn, _⟩ := bk.freeze S hS1
  have p' := p g'' l'' fun x a hx hk => by
    obtain ⟨c, v, h1, ⟨o, h2, h3⟩, h4⟩ := R.L.cell x a hx (.inl hk)
    refine ⟨c, v, h1, ⟨o, hn c o ?_ h2, h3⟩, h4.mono l''⟩
    rw [hS]
    exact List.any_eq_true.mpr ⟨_, mem_of_lookup hk, by rw [Bool.and_eq_true, beq_iff_eq, beq_iff_eq]; exact ⟨hk, h1⟩⟩
  cases r with
  | next => exact k g'' _ μ' .none h' tk p' bk' .none
  | brk => exact k g'' _ μ' .none h' tk p' bk' .none
  | cont => exact k g'' _ μ' .none h' tk p' bk' .none
  | ret r => exact k g'' _ μ' _ h' tk p' bk' (r.mono l'')
end
end Mine
set_option tactic.hygienic false
open PySem PySem.W PySem.Calls PyProof.Rows
set_option Elab.async false
set_option maxRecDepth 100000
set_option maxHeartbeats 8000000
set_option linter.unusedVariables false
set_option linter.unusedSimpArgs false
namespace Mine
section
variable {w : World} {A : Around} {env : Env} {g : Heap} {ρ : Vars} {P : Heap → Fl → Vars → Mu → Prop} {c : Addr} {pc : Option Addr}
theorem S1.cls {d₁ d₂ d₃ d₄ d₅ d₆ : DefP} {q₁ q₂ q₃ q₄ q₅ q₆ xm : Str} {k₁ k₂ k₃ : Nat} {p₀ p₁ p₂ p₃ p₄ p₅ p₆ p₇ p₈ p₉ pₓ : Pos} {clos : List (Str × Addr)} {x1 : Option Scope}
    (dp : A.depth < recursionLimit) (hc : env.code = .ref c) (C : Base w g → CodeHd g c 81) (hcl : closureFor scK env = pure clos) (hq : qualnameIn env sK sK = qK) (hb : Bindable env sK) (hob : env.kindOf (Str.ofString "object") = some .globalImplicit)
    (o₁ : ∀ D cc fr, DOk (kEnv D cc fr clos) d₁ (Str.ofString "__init__") q₁ []) (o₂ : ∀ D cc fr, DOk (kEnv D cc fr clos) d₂ (Str.ofString "__lt__") q₂ clos) (o₃ : ∀ D cc fr, DOk (kEnv D cc fr clos) d₃ (Str.ofString "__gt__") q₃ clos)
    (o₄ : ∀ D cc fr, DOk (kEnv D cc fr clos) d₄ (Str.ofString "__eq__") q₄ clos) (o₅ : ∀ D cc fr, DOk (kEnv D cc fr clos) d₅ (Str.ofString "__le__") q₅ clos) (o₆ : ∀ D cc fr, DOk (kEnv D cc fr clos) d₆ (Str.ofString "__ge__") q₆ clos)
    (h : ∀ g' a N md f₁ f₂ f₃ f₄ f₅ f₆ Pn, Le g g' → ClsAt g' a N md f₁ f₂ f₃ f₄ f₅ f₆ → FnK g' f₁ d₁ q₁ [] → FnK g' f₂ d₂ q₂ clos → P g' .next (setv ρ sK (.raw (.ref a))) (some (.tab (some Pn)))) :
    S1 w A env (.ClassDef sK [.Name (Str.ofString "object") p₀] [] [.Assign [.Name (Str.ofString "__module__") p₁] (.Constant (.str xm) k₁ p₂) p₃, .Assign [.Name (Str.ofString "__slots__") p₄] (.List [.Constant (.str sObj) k₂ p₅] p₆) p₇,
      d₁.stmt, d₂.stmt, d₃.stmt, d₄.stmt, d₅.stmt, d₆.stmt, .Assign [.Name (Str.ofString "__hash__") p₈] (.Constant .none k₃ p₉) pₓ] [] [] scK x1 sK [sObj] posK) g ρ (some (.tab pc)) P := by
  intro s E Q R k
  obtain ⟨p, loose, me, mg, mb, T⟩ := R.B.T
  refine exec_cls (mb := mb) (by rw [R.L.bl]; exact T.b.keeps R.le) ((T.builtins _ (by decide)).trans (by rfl)) ?_
  refine args_cons ((EX.built (g := g) (ρ := ρ) (μ := some (.tab pc)) (v := .type "object") (P := fun g₁ a μ₁ => g₁ = g ∧ a = .raw (.type "object") ∧ μ₁ = some (.tab pc)) (by rfl) (by rfl) hob ⟨rfl, rfl, rfl⟩) s E _ R fun g₁ a₁ μ₁ v₁ h₁ tk₁ p₁ b₁ r₁ => ?_) rfl
  obtain ⟨rfl, rfl, rfl⟩ := p₁
  obtain ⟨_, rfl⟩ := r₁.inv
  refine args_nil ?_
  rw [hq]
  have R₁ := R.step b₁
  refine bclass rfl R.B b₁.le b₁.mu hc (C R.B) R.L.gl hcl dp o₁ o₂ o₃ o₄ o₅ o₆ rfl rfl fun a N md cc Pn D psC S f₁ f₂ f₃ f₄ f₅ f₆ H tk hS CA fa fN fm fD aP NP mP hk TP KP oP CP RP T81 F₁ F₂ P81 => ?_
  have M := b₁.mu
  have X : TabI g₁ pc h₁ := M.ok
  have nm : ∀ b, ¬ mad (some (.tab pc)) b → b ≠ 81 ∧ pc ≠ some b := fun b m => ⟨fun q => m (.inl q), fun q => m (.inr (.inr (.inr q)))⟩
  have hd0 : ∀ b, mad (some (.tab pc)) b → ∃ o, H.get? b = some o := fun b m => by
    by_cases e1 : b = 81
    · obtain ⟨ps, ⟨e, _⟩, _⟩ := T81; exact ⟨_, e1 ▸ e⟩
    · by_cases e2 : pc = some b
      · rcases oP with r | ⟨r, _⟩
        · rw [e2] at r; cases r; exact ⟨_, TP.1⟩
        · rw [r] at e2; cases e2
      · obtain ⟨o, e⟩ := M.there b m; exact ⟨o, hk b o e1 e2 e⟩
  have mad' : ∀ b, mad (some (.tab (some Pn))) b → mad (some (.tab pc)) b ∨ b = Pn := fun b m => by
    rcases m with m | m | m | m
    · exact .inl (.inl m)
    · exact .inl (.inr (.inl m))
    · exact .inl (.inr (.inr (.inl m)))
    · cases m; exact .inr rfl
  have fP : mad (some (.tab pc)) Pn ∨ h₁.get? Pn = none := by
    rcases oP with r | ⟨_, r⟩
    · exact .inl (.inr (.inr (.inr r)))
    · exact .inr r
  have hS1 : ∀ b, ((h₁.get? b).isNone && b != Pn) = true → h₁.get? b = none ∧ ¬ mad (some (.tab (some Pn))) b := fun b hb => by
    simp at hb
    refine ⟨hb.1, fun m => ?_⟩
    rcases mad' b m with m | rfl
    · obtain ⟨o, e⟩ := M.there b m; rw [hb.1] at e; cases e
    · exact hb.2 rfl
  have inG : ∀ g', Le g₁ g' → Le g' H → (∀ b o, ((h₁.get? b).isNone && b != Pn) = true → H.get? b = some o → g'.get? b = some o) → Le (hid S Pn D H) g' := fun g' l l' hn b o e => by
    obtain ⟨e1, e2, e3, _⟩ := hid_of' e
    rw [hS] at e2
    cases q : g₁.get? b with
    | some o' => have := l _ _ q; rw [l' _ _ this] at e1; cases e1; exact this
    | none => rw [q] at e2; exact hn b o (by rw [Bool.and_eq_true]; exact ⟨by simpa using e2, by simpa using e3⟩) e1
  have ok : ∀ g', Le g₁ g' → Le g' H → (∀ b o, ((h₁.get? b).isNone && b != Pn) = true → H.get? b = some o → g'.get? b = some o) → MOk g' (some (.tab (some Pn))) H := fun g' l l' hn => by
    have ig := inG g' l l' hn
    have pn : ∀ b, b = 119 ∨ b = 133 → pc ≠ some b ∧ b ≠ 81 := fun b hb => by
      refine ⟨fun q => ?_, by rcases hb with rfl | rfl <;> decide⟩
      have := X.pcne b q
      rcases hb with rfl | rfl
      · exact this.2.1 rfl
      · exact this.2.2 rfl
    refine ⟨?_, ?_, ?_, fun p e => ?_⟩
    · obtain ⟨ps, ⟨a1, a2⟩, a3⟩ := X.laid; exact ⟨ps, ⟨hk 119 _ (pn 119 (.inl rfl)).2 (pn 119 (.inl rfl)).1 a1, a2⟩, a3.mono l⟩
    · obtain ⟨ps, ⟨a1, a2⟩, a3⟩ := X.law; exact ⟨ps, ⟨hk 133 _ (pn 133 (.inr rfl)).2 (pn 133 (.inr rfl)).1 a1, a2⟩, a3.mono l⟩
    · obtain ⟨ps, a1, a2⟩ := T81; exact ⟨ps, a1, cc, psC, a2, CP.keeps ig, RP.keeps ig, TP, KP.mono ig⟩
    · cases e
      refine ⟨P81, fun q => ?_, fun q => ?_⟩
      · rcases oP with r | ⟨_, r⟩
        · exact (X.pcne Pn r).2.1 q
        · obtain ⟨o, e⟩ := M.there 119 (.inr (.inl rfl)); rw [← q, r] at e; cases e
      · rcases oP with r | ⟨_, r⟩
        · exact (X.pcne Pn r).2.2 q
        · obtain ⟨o, e⟩ := M.there 133 (.inr (.inr (.inl rfl))); rw [← q, r] at e; cases e
  obtain ⟨g', bk, hn⟩ := Bk.bigStep (w := w) (μ' := some (.tab (some Pn))) b₁.le M (fun b o m e => hk b o (nm b m).1 (nm b m).2 e) hd0 (fun b m => by
      rcases mad' b m with m | rfl
      · exact hd0 b m
      · exact ⟨_, TP.1⟩) (fun b m => by
      rcases mad' b m with m | rfl
      · exact .inl m
      · exact fP) (fun b => (h₁.get? b).isNone && b != Pn) hS1 ok
  have ig := inG g' bk.st.le bk.le hn
  have R₂ := R₁.step bk
  have CA' : ClsAt g' a N md f₁ f₂ f₃ f₄ f₅ f₆ := by
    obtain ⟨t, vm, vf, vs, st, sl, e1, e2, ⟨x, y, e3, e4⟩, e5⟩ := CA.at_
    exact ⟨t, vm, vf, vs, st, sl, hn a _ (by simp [fa, aP]) e1, e2, ⟨x, y, hn N _ (by simp [fN, NP]) e3, e4⟩, hn md _ (by simp [fm, mP]) e5⟩
  refine store_any R₂ hb (.raw _) fun h₃ tk₃ b₃ R₃ => ?_
  exact k g' .next _ _ .next h₃ tk₃ (h g' a N md f₁ f₂ f₃ f₄ f₅ f₆ Pn bk.st.le CA' (F₁.mono ig) (F₂.mono ig)) ((b₁.trans bk).weak.trans b₃) R₃ .next
end
end Mine
set_option tactic.hygienic false
open PySem PySem.W PySem.Calls PyProof.Rows
set_option Elab.async false
set_option maxRecDepth 100000
set_option maxHeartbeats 8000000
set_option linter.unusedVariables false
set_option linter.unusedSimpArgs false
namespace Mine
noncomputable def kDefs : List DefP :=
  match PR.main.body.findSome? (fun | .FunctionDef n _ (.ClassDef _ _ _ b _ _ _ _ _ _ _ :: _) _ _ _ _ _ _ _ => if n == Str.ofString "cmp_to_key" then some b else none | _ => none) with
  | some b => b.filterMap fun | .FunctionDef n a b _ _ _ sc _ _ p => some ⟨n, a, b, sc, p⟩ | _ => none
  | none => []
noncomputable def kd (i : Nat) : DefP := kDefs.getD i ⟨Str.ofString "", ⟨[], [], none, [], [], none, []⟩, [], scK, posK⟩
noncomputable def kS1 : { d : DefP // d = kd 0 } := ⟨⟨_, _, _, _, _⟩, by rfl⟩
noncomputable def kS2 : { d : DefP // d = kd 1 } := ⟨⟨_, _, _, _, _⟩, by rfl⟩
noncomputable def kS3 : { d : DefP // d = kd 2 } := ⟨⟨_, _, _, _, _⟩, by rfl⟩
noncomputable def kS4 : { d : DefP // d = kd 3 } := ⟨⟨_, _, _, _, _⟩, by rfl⟩
noncomputable def kS5 : { d : DefP // d = kd 4 } := ⟨⟨_, _, _, _, _⟩, by rfl⟩
noncomputable def kS6 : { d : DefP // d = kd 5 } := ⟨⟨_, _, _, _, _⟩, by rfl⟩
end Mine
set_option tactic.hygienic false
open PySem PySem.W PySem.Calls PyProof.Rows
set_option Elab.async false
set_option maxRecDepth 100000
set_option maxHeartbeats 8000000
set_option linter.unusedVariables false
set_option linter.unusedSimpArgs false
namespace Mine
noncomputable abbrev sMy : Str := Str.ofString "mycmp"
noncomputable def KeyOk (g : Heap) (K : Addr) (f : Addr) : Prop := ∃ N md f₁ f₂ f₃ f₄ f₅ f₆ c, ClsAt g K N md f₁ f₂ f₃ f₄ f₅ f₆ ∧ FnK g f₁ kS1.1 (Str.ofString "cmp_to_key.<locals>.K.__init__") [] ∧ FnK g f₂ kS2.1 (Str.ofString "cmp_to_key.<locals>.K.__lt__") [(sMy, c)] ∧ g.IsCell c (some (.ref f))
theorem ClsAt.mono {h h' : Heap} {a N md i lt f₃ f₄ f₅ f₆ : Addr} (x : ClsAt h a N md i lt f₃ f₄ f₅ f₆) (k : Le h h') : ClsAt h' a N md i lt f₃ f₄ f₅ f₆ := by
  obtain ⟨t, vm, vf, vs, st, sl, e1, e2, ⟨x, y, e3, e4⟩, e5⟩ := x.at_
  exact ⟨t, vm, vf, vs, st, sl, k _ _ e1, e2, ⟨x, y, k _ _ e3, e4⟩, k _ _ e5⟩
section
variable {w : World} {g : Heap} {P : Heap → AV → Mu → Prop} {pc : Option Addr}
theorem key_CX {n : Nat} {f : Addr} (h : ∀ g' K Pn, Le g g' → KeyOk g' K f → P g' (.raw (.ref K)) (some (.tab (some Pn)))) : CX w (n + 1) (.ref 86) [.raw (.ref f)] g (some (.tab pc)) P := by
  refine CX.topCF (n := n) (ρ₀ := [(sMy, .raw (.ref f))]) (by exact rfl) (by exact rfl) (bindR1 (x := sMy) fun _ => rfl) rfl (by decide) (fun L => ⟨.inr ⟨rfl, rfl⟩, trivial⟩) (fun A L Rm => ?_)
  refine SX.cons (S1.cls (d₁ := kS1.1) (d₂ := kS2.1) (d₃ := kS3.1) (d₄ := kS4.1) (d₅ := kS5.1) (d₆ := kS6.1)
    (q₁ := Str.ofString "cmp_to_key.<locals>.K.__init__") (q₂ := Str.ofString "cmp_to_key.<locals>.K.__lt__") (q₃ := Str.ofString "cmp_to_key.<locals>.K.__gt__")
    (q₄ := Str.ofString "cmp_to_key.<locals>.K.__eq__") (q₅ := Str.ofString "cmp_to_key.<locals>.K.__le__") (q₆ := Str.ofString "cmp_to_key.<locals>.K.__ge__")
    (clos := [(sMy, L + 1)]) ?_ rfl ?_ rfl ?_ ?_ ?_ ?_ ?_ ?_ ?_ ?_ ?_ ?_)
  · have := Rm.dp; walk_at "om"
  · exact fun B => ⟨_, _, _, _, _, _, _, _, _, B.K 85 _ (by exact rfl), rfl, rfl, rfl, rfl, rfl, rfl, rfl, rfl, by decide⟩
  · rfl
  · exact .inl rfl
  · rfl
  · exact fun D cc fr => ⟨rfl, .head _, rfl, rfl, rfl, rfl, rfl, rfl⟩
  · exact fun D cc fr => ⟨rfl, .tail _ (.head _), rfl, rfl, rfl, rfl, rfl, rfl⟩
  · exact fun D cc fr => ⟨rfl, .tail _ (.tail _ (.head _)), rfl, rfl, rfl, rfl, rfl, rfl⟩
  · exact fun D cc fr => ⟨rfl, .tail _ (.tail _ (.tail _ (.head _))), rfl, rfl, rfl, rfl, rfl, rfl⟩
  · exact fun D cc fr => ⟨rfl, .tail _ (.tail _ (.tail _ (.tail _ (.head _)))), rfl, rfl, rfl, rfl, rfl, rfl⟩
  · exact fun D cc fr => ⟨rfl, .tail _ (.tail _ (.tail _ (.tail _ (.tail _ (.head _))))), rfl, rfl, rfl, rfl, rfl, rfl⟩
  · intro g' K N md f₁ f₂ f₃ f₄ f₅ f₆ Pn l C F₁ F₂
    refine SX.cons (S1.ret (EX.name (a := .raw (.ref K)) (by rfl) (by rfl) ?_))
    intro g'' l' hc
    obtain ⟨c, v, h1, h2, h3⟩ := hc sMy (.raw (.ref f)) (by rfl) (by rfl)
    refine h g'' K Pn (l.trans l') ?_
    have hcc : c = L + 1 := Option.some.inj (h1.symm.trans (by rfl))
    subst hcc
    cases h3
    exact ⟨N, md, f₁, f₂, f₃, f₄, f₅, f₆, _, C.mono l', F₁.mono l', F₂.mono l', h2⟩
end
end Mine
set_option tactic.hygienic true
open PySem PySem.W PySem.Calls PyProof.Rows
set_option Elab.async false
set_option maxRecDepth 100000
set_option maxHeartbeats 400000
set_option linter.unusedVariables false
set_option linter.unusedSimpArgs false
namespace Mine
noncomputable def fragOf (h : Heap) : List Addr → Frag
  | [] => []
  | b :: r => match h.get? b with
    | some o => (b, o) :: fragOf h r
    | none => fragOf h r
theorem fragOf_in (h : Heap) : ∀ l, (fragOf h l).In h
  | [] => fun a o e => nomatch e
  | b :: r => fun a o e => by
    unfold fragOf at e
    split at e
    · rename_i o' ho
      rw [List.lookup_cons] at e
      split at e
      · rename_i q; cases e; rw [beq_iff_eq.mp q]; exact ho
      · exact fragOf_in h r a o e
    · exact fragOf_in h r a o e
theorem fragOf_some {h : Heap} {b : Addr} {o : Obj} {l : List Addr} (e : h.get? b = some o) : fragOf h (b :: l) = (b, o) :: fragOf h l := by rw [fragOf, e]
theorem fragOf_none {h : Heap} {b : Addr} {l : List Addr} (e : h.get? b = none) : fragOf h (b :: l) = fragOf h l := by rw [fragOf, e]
theorem fragOf_get {h : Heap} {l : List Addr} {b : Addr} {o : Obj} (hm : b ∈ l) (e : h.get? b = some o) : (fragOf h l).lookup b = some o := by
  induction l with
  | nil => cases hm
  | cons c r ih =>
    by_cases q : b = c
    · rw [← q, fragOf_some e, List.lookup_cons, beq_self_eq_true]
    · have ih' := ih ((List.mem_cons.mp hm).resolve_left q)
      cases ec : h.get? c with
      | none => rw [fragOf_none ec]; exact ih'
      | some oc => rw [fragOf_some ec, List.lookup_cons, beq_eq_false_iff_ne.mpr q]; exact ih'
theorem nsIn_of {K : Frag} {N : Addr} {es : Array DictEntry} {ep : Nat} {l : NL} {n : Str} (e : K.lookup N = some { cls := .type "dict", dict := none, data := .dict es ep, slots := #[] }) (r : Ents es.toList l) : nsIn K N n = some (l.lookup n) := by
  unfold nsIn
  rw [e]
  dsimp only
  have hr := r.find n
  have nr := r.noRef
  cases q : es.toList.find? (·.key.isStr n) with
  | some x => rw [q] at hr; simp only [Option.map_some] at hr; dsimp only; rw [← hr]
  | none =>
    rw [q] at hr; simp only [Option.map_none] at hr
    rw [← Array.any_toList] at nr
    rw [if_neg (by rw [nr]; decide), hr]
structure KOk (h : Heap) (K : Frag) (a md f₁ f₂ : Addr) : Prop where
  X : K.In h
  cls : ∃ N, clsIn K a = some (clsK a N)
  makes : makesIn K a = true
  init : findIn K (.ref a) "__init__" = some (some (.ref f₁))
  lt : findIn K (.ref a) "__lt__" = some (some (.ref f₂))
  ty1 : typeIn K (.ref f₁) = some (.type "function")
  ty2 : typeIn K (.ref f₂) = some (.type "function")
  obj : findIn K (.ref a) sObj = some (some (.ref md))
  slot : slotIn K md a = some 0
  tymd : typeIn K (.ref md) = some (.type "member_descriptor")
  ga : findIn K (.ref a) "__getattribute__" = some (some (.builtin "object.__getattribute__"))
  gat : findIn K (.ref a) "__getattr__" = some none
  sa : findIn K (.ref a) "__setattr__" = some (some (.builtin "object.__setattr__"))
  over : plainOver K a = true
  get : specialIn K (.ref md) "__get__" = some (some (.builtin "member_descriptor.__get__"))
  takes : takesIn K (.ref md) = some true
  keep : keepIn K (.ref a) = true
theorem ClsAt.frag {h : Heap} {a N md f₁ f₂ f₃ f₄ f₅ f₆ : Addr} {d₁ d₂ : DefP} {q₁ q₂ : Str} {c₁ c₂ : List (Str × Addr)} (C : ClsAt h a N md f₁ f₂ f₃ f₄ f₅ f₆) (F₁ : FnK h f₁ d₁ q₁ c₁) (F₂ : FnK h f₂ d₂ q₂ c₂) : KOk h (fragOf h [a, N, md, f₁, f₂]) a md f₁ f₂ := by
  obtain ⟨t, vm, vf, vs, st, sl, e1, e2, ⟨es, ep, e3, e4⟩, e5⟩ := C.at_
  obtain ⟨cv, ctv, doc, pm, e6, _⟩ := F₁
  obtain ⟨cv', ctv', doc', pm', e7, _⟩ := F₂
  have X := fragOf_in h [a, N, md, f₁, f₂]
  have k1 := fragOf_get (l := [a, N, md, f₁, f₂]) (by simp) e1
  have k2 := fragOf_get (l := [a, N, md, f₁, f₂]) (by simp) e3
  have k3 := fragOf_get (l := [a, N, md, f₁, f₂]) (by simp) e5
  have k4 := fragOf_get (l := [a, N, md, f₁, f₂]) (by simp) e6
  have k5 := fragOf_get (l := [a, N, md, f₁, f₂]) (by simp) e7
  generalize fragOf h [a, N, md, f₁, f₂] = K at X k1 k2 k3 k4 k5 ⊢
  have hcls : clsIn K a = some (clsK a N) := by unfold clsIn; rw [k1]
  have hns : ∀ n, nsIn K N n = some ((clsL vm vf vs (.ref f₁) (.ref f₂) (.ref f₃) (.ref f₄) (.ref f₅) (.ref f₆) st (.ref md)).lookup n) := fun n => nsIn_of k2 e4
  have hfind : ∀ n, findIn K (.ref a) n = alongIn K n [.ref a, .type "object"] := fun n => by unfold findIn; dsimp only; rw [k1]; rfl
  have hown : ∀ n, ownIn K n (.ref a) = some ((clsL vm vf vs (.ref f₁) (.ref f₂) (.ref f₃) (.ref f₄) (.ref f₅) (.ref f₆) st (.ref md)).lookup n) := fun n => by unfold ownIn; dsimp only; rw [k1]; exact hns n
  have f_own : ∀ n v, (clsL vm vf vs (.ref f₁) (.ref f₂) (.ref f₃) (.ref f₄) (.ref f₅) (.ref f₆) st (.ref md)).lookup n = some v → findIn K (.ref a) n = some (some v) := fun n v q => by rw [hfind]; unfold alongIn; rw [hown, q]
  have f_top : ∀ n r, (clsL vm vf vs (.ref f₁) (.ref f₂) (.ref f₃) (.ref f₄) (.ref f₅) (.ref f₆) st (.ref md)).lookup n = none → alongIn K n [.type "object"] = some r → findIn K (.ref a) n = some r := fun n r q z => by rw [hfind]; unfold alongIn; rw [hown, q]; exact z
  have tya : typeIn K (.ref a) = some (.type "type") := by unfold typeIn; dsimp only; rw [k1]; rfl
  have tym : typeIn K (.ref md) = some (.type "member_descriptor") := by unfold typeIn; dsimp only; rw [k3]; rfl
  have sp : ∀ n r, findIn K (.type "member_descriptor") n = r → specialIn K (.ref md) n = r := fun n r q => by unfold specialIn; rw [tym]; exact q
  have hset : specialIn K (.ref md) "__set__" = some (some (.builtin "member_descriptor.__set__")) := sp _ _ (by show fastLookup _ _ = _; kernel_rfl)
  have mem : (clsK a N).mro.contains (.ref a) = true := by show List.contains [Value.ref a, Value.type "object"] (.ref a) = true; simp
  have mem2 : (clsK a N).mro.contains (.type "object") = true := by show List.contains [Value.ref a, Value.type "object"] (.type "object") = true; simp
  refine ⟨X, ⟨N, hcls⟩, ?_, f_own _ _ (by rfl), f_own _ _ (by rfl), ?_, ?_, f_own _ _ (by rfl), ?_, tym, f_top _ _ (by rfl) (by unfold alongIn; kernel_rfl), f_top _ _ (by rfl) (by unfold alongIn; kernel_rfl), f_top _ _ (by rfl) (by unfold alongIn; kernel_rfl), ?_, sp _ _ (by show fastLookup _ _ = _; kernel_rfl), ?_, ?_⟩
  · unfold makesIn
    rw [k1]
    dsimp only
    have s1 : specialIn K (.ref a) "__call__" = some (some (.builtin "type.__call__")) := by unfold specialIn; rw [tya]; exact (show fastLookup "type" (Str.ofString "__call__") = _ by kernel_rfl)
    have s2 : instIn K (.ref a) (.type "type") = some true := by unfold instIn; rw [tya]; show subIn K (.type "type") (.type "type") = _; kernel_rfl
    have e2' : (sl.toList[4]?).join = some (.builtin "object.__new__") := by rw [Array.getElem?_toList, e2]; rfl
    rw [s1, s2, e2', mem, mem2]
    rfl
  · unfold typeIn; dsimp only; rw [k4]; rfl
  · unfold typeIn; dsimp only; rw [k5]; rfl
  · unfold slotIn recIn
    rw [k3, hcls]
    dsimp only
    simp [clsK]
  · unfold plainOver; rw [hcls]; rfl
  · unfold takesIn; rw [hset]
  · have s1 : specialIn K (.ref a) "__call__" = some (some (.builtin "type.__call__")) := by unfold specialIn; rw [tya]; exact (show fastLookup "type" (Str.ofString "__call__") = _ by kernel_rfl)
    unfold keepIn
    dsimp only
    rw [k1]
    dsimp only
    rw [s1]
    rfl
end Mine
set_option tactic.hygienic false
open PySem PySem.W PySem.Calls PyProof.Rows
set_option Elab.async false
set_option maxRecDepth 100000
set_option maxHeartbeats 1000000
set_option linter.unusedVariables false
set_option linter.unusedSimpArgs false
namespace Mine
theorem KeyOk.mono {g g' : Heap} {K f : Addr} (k : Le g g') (x : KeyOk g K f) : KeyOk g' K f := by
  obtain ⟨N, md, f₁, f₂, f₃, f₄, f₅, f₆, c, C, F₁, F₂, hc⟩ := x
  exact ⟨N, md, f₁, f₂, f₃, f₄, f₅, f₆, c, C.mono k, F₁.mono k, F₂.mono k, hc.keeps k⟩
section
variable {w : World} {g : Heap} {μ : Mu} {P : Heap → AV → Mu → Prop}
noncomputable abbrev eDict : Obj := { cls := .type "dict", data := .dict #[] }
theorem mk_CX {n : Nat} {K f : Addr} {row : List UInt8} (hr : row.length = 3 ∨ row.length = 6) (ok : KeyOk g K f) (h : ∀ g' x, Le g g' → g.get? x = none → (∃ o, g'.get? x = some o) → P g' (.inst K x row) μ) : CX w (n + 2) (.ref K) [.bytes row] g μ P := by
  intro A s E Q vs Rm B le M r k
  obtain ⟨v, rfl, r1⟩ := r.one
  obtain ⟨t, rfl⟩ := r1.inv
  obtain ⟨N, md, f₁, f₂, f₃, f₄, f₅, f₆, c, C, F₁, F₂, hc⟩ := ok
  have KO := (C.mono le).frag (F₁.mono le) (F₂.mono le)
  obtain ⟨cv, ctv, doc, pm, ho, hrec⟩ := F₁.mono le
  generalize fragOf s.heap [K, N, md, f₁, f₂] = KK at KO
  obtain ⟨hh, gg, d, tk, os⟩ := s
  dsimp only at le M KO ho hrec k
  obtain ⟨p, l, me, mg, mb, T⟩ := B.T
  have X := KO.X
  refine wpAny_call (make_core (makes_of X KO.makes) (looks_findIn X KO.init) (fun self => bind_fn X self KO.ty1) (.inl rfl) ?_)
  have k1 : Le hh ((hh.push eDict).push (instObj K hh.objs.size)) := fun b o e => Heap.get?_push_of_some _ (Heap.get?_push_of_some _ e)
  have sz : (hh.push eDict).objs.size = hh.objs.size + 1 := Heap.size_push _ _
  have hx : ((hh.push eDict).push (instObj K hh.objs.size)).get? (hh.objs.size + 1) = some (instObj K hh.objs.size) := by heap_get
  have hd : ((hh.push eDict).push (instObj K hh.objs.size)).get? hh.objs.size = some eDict := Heap.get?_push_of_some _ (Heap.get?_push_at rfl rfl)
  have n1 : hh.get? (hh.objs.size + 1) = none := fresh_ge (Nat.le_succ _)
  have n2 : hh.get? hh.objs.size = none := fresh_size _
  generalize hh.objs.size + 1 = x at hx n1 ⊢
  generalize hdx : hh.objs.size = dx at hx hd n2 k1 ⊢
  generalize hH : (hh.push eDict).push (instObj K dx) = H at hx hd k1 ⊢
  have szH : hh.objs.size + 2 ≤ H.objs.size := by rw [← hH, Heap.size_push, Heap.size_push]; walk_at "om"
  have hxd : x ≠ dx := fun e => by rw [e, hd] at hx; cases hx
  refine codeAny_call_def (binds := [(Str.ofString "self", .ref x), (Str.ofString "obj", .bytes row.toArray t)]) (by rw [depth_under_kw]; have := Rm.dp; walk_at "om") (k1 _ _ ho) rfl ((T.nolimit).keeps (le.trans k1)) (hrec.keeps k1) rfl (.of_eq rfl) (show ∀ x ∈ kS1.1.scope.names, x.2 ≠ NameKind.cell by decide) (fun y hy => ?_) (fun h₁ hns kp => ?_) rfl rfl rfl
  · simp only [List.mem_cons, List.not_mem_nil, or_false] at hy
    rcases hy with rfl | rfl <;> rfl
  dsimp only at hns kp
  have lx : H.objs.size ≠ x := Nat.ne_of_gt (Heap.lt_size hx)
  have ld : H.objs.size ≠ dx := Nat.ne_of_gt (Heap.lt_size hd)
  have Fr₁ : Fr hh H.objs.size h₁ _ := ⟨hns, k1.trans kp, by walk_at "om"⟩
  have Nw : News hh H.objs.size h₁ [(x, instObj K dx), (dx, eDict)] := fun q hq => by
    simp only [List.mem_cons, List.not_mem_nil, or_false] at hq
    rcases hq with rfl | rfl
    · exact ⟨kp _ _ hx, fun e => lx e.symm, n1⟩
    · exact ⟨kp _ _ hd, fun e => ld e.symm, n2⟩
  refine wpAny_execs_cons (plainObj_wpAny_Assign_Attribute ?_ rfl)
  refine ldc rfl rfl hns rfl ?_ (by decide)
  refine ldc rfl rfl hns rfl ?_ (by decide)
  have I : InstAt h₁ x (instObj K dx) K (some eDict) := ⟨kp _ _ hx, rfl, rfl, kp _ _ hd⟩
  refine set_slot (ox' := instO K dx row t) Fr₁ X Nw I KO.sa KO.over ?_ KO.tymd KO.slot (by walk_at "om") rfl rfl (.head fun q hq => ?_) fun h₂ F₂' N₂ => ?_
  · unfold takerIn
    rw [show Str.ofString "obj" = sObj from rfl, KO.obj]
    simp [KO.takes]
  · simp only [List.mem_cons, List.not_mem_nil, or_false] at hq
    subst hq; exact fun e => hxd e.symm
  refine wpAny_execs_nil ⟨rfl, ?_⟩
  have bk : Bk w noF μ g hh μ g h₂ := Stp.ext F₂'.keep le M
  obtain ⟨g', bk', l', hn, _⟩ := bk.freeze (fun b => b == x || b == dx) fun b hb => by
    rw [Bool.or_eq_true, beq_iff_eq, beq_iff_eq] at hb
    have hb' : hh.get? b = none := by rcases hb with rfl | rfl; exact n1; exact n2
    refine ⟨hb', fun m => ?_⟩
    obtain ⟨o, e⟩ := M.there b m
    rw [hb'] at e; cases e
  have gx := hn x _ (by simp) (N₂ _ (.head _)).1
  have gd := hn dx _ (by simp) (N₂ _ (.tail _ (.head _))).1
  exact k g' _ μ _ h₂ _ (h g' x l' (le.none n1) ⟨_, gx⟩) bk' (.inst gx gd hr)
end
end Mine
set_option tactic.hygienic true
open PySem PySem.W PySem.Calls PyProof.Rows
set_option Elab.async false
set_option maxRecDepth 100000
set_option maxHeartbeats 1000000
set_option linter.unusedVariables false
set_option linter.unusedSimpArgs false
namespace Mine
section
variable {w : World} {A : Around} {env : Env} {g : Heap} {ρ : Vars} {μ : Mu} {P : Heap → AV → Mu → Prop}
theorem EX.objOf {x : Str} {xp pos : Pos} (h : EX w A env (.Name x xp) g ρ μ fun g₁ a μ₁ => ∃ K b row f, a = .inst K b row ∧ KeyOk g₁ K f ∧ P g₁ (.bytes row) μ₁) : EX w A env (.Attribute (.Name x xp) sObj pos) g ρ μ P := by
  intro s E Q R k
  refine Attribute_name (h.then R fun g₁ a μ₁ v₁ s₁ h₁ b₁ R₁ r₁ e₁ => ?_)
  obtain ⟨h', tk, rfl⟩ := e₁
  obtain ⟨K, b, row, f, rfl, ok, p⟩ := h₁
  obtain ⟨N, md, f₁, f₂, f₃, f₄, f₅, f₆, c, C, F₁, F₂, hc⟩ := ok
  obtain ⟨_, _, rfl, hx, hd, hz⟩ := r₁.inv
  have KO := (C.mono R₁.le).frag (F₁.mono R₁.le) (F₂.mono R₁.le)
  dsimp only at KO
  generalize fragOf h' [K, N, md, f₁, f₂] = KK at KO
  obtain ⟨N', hcls⟩ := KO.cls
  have I : InstAt h' b _ K (some eDict) := ⟨R₁.le _ _ hx, rfl, rfl, R₁.le _ _ hd⟩
  exact get_bind KO.X I KO.ga (findObj_data (by rw [hcls]; rfl) KO.obj KO.get KO.takes) KO.gat (wpAny_call (slot_get (s := { s with heap := h', toks := tk + 1 }) KO.X I KO.slot rfl (handed_on rfl (k g₁ _ μ₁ _ h' (tk + 1) p b₁ (.bytes _ _)))))
theorem isRow_of {x : List UInt8} (h : x.length = 3 ∨ x.length = 6) : IsRow x := by unfold IsRow; walk_at "om"
structure CmpFn (w : World) (m : Nat) (f : Addr) (cmp : List UInt8 → List UInt8 → Int) (g : Heap) : Prop where
  kp : ∀ g', Le g g' → Base w g' → Kpt g' (.ref f)
  call : ∀ g' μ x y P, Le g g' → IsRow x → IsRow y → (∀ g'', Le g' g'' → P g'' (.int (cmp x y)) μ) → CX w m (.ref f) [.bytes x, .bytes y] g' μ P
theorem lt_CX {m : Nat} {K f a b md f₂ c : Addr} {cmp : List UInt8 → List UInt8 → Int} {x y : List UInt8} (ok : KeyOk g K f) (F₂ : FnK g f₂ kS2.1 (Str.ofString "cmp_to_key.<locals>.K.__lt__") [(sMy, c)]) (hc : g.IsCell c (some (.ref f))) (cf : CmpFn w m f cmp g) (hx : IsRow x) (hy : IsRow y)
    (h : ∀ g', Le g g' → P g' (.bool (decide (cmp x y < 0))) μ) : CX w (m + 1) (.ref f₂) [.inst K a x, .inst K b y] g μ P := by
  obtain ⟨cv, ctv, doc, pm, ho, hrec⟩ := F₂
  refine CX.def (n := m) (ρ₀ := [(Str.ofString "self", .inst K a x), (Str.ofString "other", .inst K b y)]) (ρf := [(sMy, .raw (.ref f))]) (fun _ => ho) rfl (fun _ => hrec) rfl (fun s vs X r => ?_) (show [Str.ofString "self", Str.ofString "other"].Nodup by decide) (show ∀ x ∈ [Str.ofString "self", Str.ofString "other"], kS2.1.scope.names.lookup x = some .local by decide) (show ∀ x ∈ kS2.1.scope.names, x.2 ≠ NameKind.cell by decide) (show ∀ x ∈ [sMy], kS2.1.scope.names.lookup x = some .free by decide) (fun _ z u hz => ?_) (fun _ z u hz => ?_) (fun z u v h1 h2 => ?_) rfl rfl (fun A L Rm => ?_) rfl rfl rfl
  · obtain ⟨v, u, rfl, r1, r2⟩ := r.two
    exact ⟨[(Str.ofString "self", v), (Str.ofString "other", u)], .of_eq rfl, rfl, r⟩
  · rw [List.lookup_cons, List.lookup_nil] at hz
    split at hz
    · rename_i q
      cases hz
      have := beq_iff_eq.mp q; subst this
      exact ⟨c, .ref f, by rfl, hc, .raw _⟩
    · cases hz
  · have hz' : List.lookup z [(sMy, c)] = some u := hz
    rw [List.lookup_cons, List.lookup_nil] at hz'
    split at hz'
    · cases hz'; exact ⟨_, hc⟩
    · cases hz'
  · have one : ∀ {y : Str} {v : Addr}, List.lookup y [(sMy, c)] = some v → y = sMy := fun {y v} q => by
      rw [List.lookup_cons, List.lookup_nil] at q
      by_cases e : (y == sMy) = true
      · exact beq_iff_eq.mp e
      · rw [Bool.not_eq_true] at e; rw [e] at q; cases q
    rw [one h1, one h2]
  refine SX.cons (S1.ret (EX.cmp (EX.call (n := m) Rm (EX.nameF (a := .raw (.ref f)) (by rfl) (by rfl) ⟨_, rfl, cf.kp g (.refl _), ?_⟩))))
  refine LX.cons (EX.objOf (EX.name (by rfl) (by rfl) ⟨K, a, x, f, rfl, ok, ?_⟩))
  refine LX.cons (EX.objOf (EX.name (by rfl) (by rfl) ⟨K, b, y, f, rfl, ok, ?_⟩))
  refine LX.nil (cf.call g μ x y _ (.refl _) hx hy fun g' l => EX.cint (OX2.lt ?_))
  exact h g' l
theorem key_Cmp {m : Nat} {K f : Addr} {cmp : List UInt8 → List UInt8 → Int} {lt : Ky → Ky → Bool} (ok : KeyOk g K f) (cf : CmpFn w m f cmp g) (hlt : ∀ a b : Ky, (a.2.length = 3 ∨ a.2.length = 6) → (b.2.length = 3 ∨ b.2.length = 6) → decide (cmp a.2 b.2 < 0) = lt a b) : Cmp w (m + 1) K lt g := by
  intro A g' μ a b P Rm l hp s E Q va vb B le M ra rb k
  have ok' := ok.mono l
  obtain ⟨N, md, f₁, f₂, f₃, f₄, f₅, f₆, c, C, F₁, F₂, hc⟩ := id ok'
  obtain ⟨_, _, rfl, hx, hd, hz⟩ := ra.inv
  obtain ⟨_, _, rfl, hx', hd', hz'⟩ := rb.inv
  have KO := (C.mono le).frag (F₁.mono le) (F₂.mono le)
  generalize fragOf s.heap [K, N, md, f₁, f₂] = KK at KO
  have I : InstAt s.heap a.1 _ K (some eDict) := ⟨le _ _ hx, rfl, rfl, le _ _ hd⟩
  have I' : InstAt s.heap b.1 _ K (some eDict) := ⟨le _ _ hx', rfl, rfl, le _ _ hd'⟩
  have cf' : CmpFn w m f cmp g' := ⟨fun g'' l'' => cf.kp g'' (l.trans l''), fun g'' μ x y P l'' => cf.call g'' μ x y P (l.trans l'')⟩
  have call := lt_CX (w := w) (m := m) (a := a.1) (b := b.1) (md := md) (μ := μ) (P := fun g'' av μ' => Le g' g'' ∧ av = .bool (decide (cmp a.2 b.2 < 0)) ∧ μ' = μ) ok' F₂ hc cf' (isRow_of hz) (isRow_of hz') (fun g'' l'' => ⟨l'', rfl, rfl⟩) A s E (fun v s' => v ≠ .notImplemented ∧ Q v s') [.ref a.1, .ref b.1] Rm B le M
    (.cons (.inst hx hd hz) (.cons (.inst hx' hd' hz') .nil)) (fun g'' av μ' v h' tk p bk r => by
      obtain ⟨l'', rfl, rfl⟩ := p
      obtain ⟨_, rfl⟩ := r.inv
      rw [hlt a b hz hz'] at *
      exact ⟨nofun, k g'' _ _ _ h' tk (hp g'' l'') bk (.bool _)⟩)
  show wpAny _ _ (richCompare .Lt _ _) _ _ _
  have one : wpAny (model PR w) A (tryCompare (.ref a.1) (cmpInfo .Lt).2.1 (.ref b.1)) (fun r s' => ∃ v, r = some v ∧ Q v s') E s := by
    unfold tryCompare
    refine wpAny_bind (ifBound_K KO.X I KO.lt (by unfold isFn; rw [KO.ty2]; rfl) (wpAny_mono call (fun v s' hv => ?_) fun _ _ e => e))
    obtain ⟨hv, hq⟩ := hv
    cases v <;> first | exact (hv rfl).elim | exact wpAny_pure ⟨_, rfl, hq⟩
  unfold richCompare
  simp only [oneThing_ref]
  refine wpAny_holding (wpAny_bind (wpAny_cRoomFor Rm.u ?_))
  refine wpAny_bind (I.type.here (wpAny_bind (I'.type.here ?_)))
  rw [if_neg (by simp)]
  refine wpAny_bind (wpAny_pure ?_)
  simp only [Bool.false_eq_true, if_false]
  refine wpAny_bind (wpAny_mono one (fun r s' z => ?_) fun _ _ e => e)
  obtain ⟨v, rfl, hq⟩ := z
  exact wpAny_pure hq
end
end Mine
set_option tactic.hygienic false
open PySem PySem.W PySem.Calls PyProof.Rows
set_option Elab.async false
set_option maxRecDepth 100000
set_option linter.unusedVariables false
set_option linter.unusedSimpArgs false
namespace Mine
theorem ord_app : ∀ {a c : List UInt8} (b d : List UInt8), a.length = c.length → ord (a ++ b) (c ++ d) = (ord a c).then (ord b d)
  | [], [], b, d, _ => rfl
  | [], _ :: _, _, _, h => by simp at h
  | _ :: _, [], _, _, h => by simp at h
  | x :: a, y :: c, b, d, h => by
    rw [List.cons_append, List.cons_append, ord_cons, ord_cons]
    by_cases h1 : x < y
    · rw [if_pos h1, if_pos h1]; rfl
    · by_cases h2 : x > y
      · rw [if_neg h1, if_pos h2, if_neg h1, if_pos h2]; rfl
      · rw [if_neg h1, if_neg h2, if_neg h1, if_neg h2]; exact ord_app b d (by simpa using h)
noncomputable def wide (A : List UInt8) : List UInt8 := if A.length = 4 then A ++ A else A
theorem ord_flip (a b : List UInt8) : (ord a b).then (ord b a) = ord a b := by
  rw [ord_swap a b]; cases ord a b <;> rfl
theorem ord_wide48 {A B : List UInt8} (ha : A.length = 4) (hb : B.length = 8) : ord (A ++ B) (B ++ A) = ord (wide A) (wide B) := by
  unfold wide
  rw [if_pos ha, if_neg (by walk_at "om")]
  obtain ⟨B1, B2, rfl, h1, h2⟩ : ∃ B1 B2, B = B1 ++ B2 ∧ B1.length = 4 ∧ B2.length = 4 := ⟨B.take 4, B.drop 4, (List.take_append_drop 4 B).symm, by rw [List.length_take]; walk_at "om", by rw [List.length_drop]; walk_at "om"⟩
  rw [List.append_assoc, ord_app _ _ (by walk_at "om"), ord_app _ _ (by walk_at "om"), ord_app _ _ (by walk_at "om")]
  cases e : ord A B1 with
  | lt => rfl
  | gt => rfl
  | eq =>
    have := ord_eq e
    subst this
    show (ord A B2).then (ord B2 A) = ord A B2
    exact ord_flip _ _
theorem ord_wide {A B : List UInt8} (ha : A.length = 4 ∨ A.length = 8) (hb : B.length = 4 ∨ B.length = 8) : ord (A ++ B) (B ++ A) = ord (wide A) (wide B) := by
  rcases ha with ha | ha
  · rcases hb with hb | hb
    · unfold wide
      rw [if_pos ha, if_pos hb, ord_app _ _ (by walk_at "om"), ord_app _ _ (by walk_at "om"), ord_flip]
      cases ord A B <;> rfl
    · exact ord_wide48 ha hb
  · rcases hb with hb | hb
    · rw [ord_swap (B ++ A) (A ++ B), ord_swap (wide B) (wide A), ord_wide48 hb ha]
    · unfold wide
      rw [if_neg (by walk_at "om"), if_neg (by walk_at "om"), ord_app _ _ (by walk_at "om"), ord_flip]
noncomputable def nrm (x : List UInt8) : List UInt8 := if x.length = 3 ∨ x.length = 6 then x else [0, 0, 0]
theorem nrm_len (x : List UInt8) : (nrm x).length = 3 ∨ (nrm x).length = 6 := by
  unfold nrm
  split
  · assumption
  · exact .inl rfl
theorem nrm_of {x : List UInt8} (h : x.length = 3 ∨ x.length = 6) : nrm x = x := if_pos h
noncomputable abbrev GoodRow (x : List UInt8) : Prop := x.length = 3 ∨ x.length = 6
noncomputable def wk (x : List UInt8) : List UInt8 := wide (b64 (nrm x))
theorem b64_good {x : List UInt8} (h : GoodRow x) : (b64 x).length = 4 ∨ (b64 x).length = 8 := by
  rw [b64_len]; rcases h with h | h <;> rw [h]
  · exact .inl rfl
  · exact .inr rfl
theorem good_mod {x : List UInt8} (h : GoodRow x) : x.length % 3 = 0 := by rcases h with h | h <;> rw [h]
theorem cmpI_lt {a b : List UInt8} (ha : GoodRow a) (hb : GoodRow b) : decide (cmpI a b < 0) = (ord (wk a) (wk b) == .lt) := by
  unfold cmpI wk
  rw [nrm_of ha, nrm_of hb, b64_append _ _ (good_mod ha), b64_append _ _ (good_mod hb), ord_wide (b64_good ha) (b64_good hb)]
  cases ord (wide (b64 a)) (wide (b64 b)) <;> rfl
noncomputable def ltF (a b : Ky) : Bool := ord (wk a.2) (wk b.2) == .lt
noncomputable def ltL (a b : Ky) : Bool := ord (wk b.2) (wk a.2) == .lt
theorem ltF_false {a b : Ky} : ltF a b = false ↔ ole (wk b.2) (wk a.2) := by
  unfold ltF
  rw [beq_eq_false_iff_ne]
  exact ⟨ole_of_not_lt, not_lt_of_ole⟩
theorem ltL_false {a b : Ky} : ltL a b = false ↔ ole (wk a.2) (wk b.2) := ltF_false (a := b) (b := a)
theorem ltF_ok : LtOk ltF where
  asym := fun a b h => ltF_false.mpr (ole_of_lt (eq_of_beq h))
  trans := fun a b c h k => ltF_false.mpr (ole_trans (ltF_false.mp h) (ltF_false.mp k))
theorem ltL_ok : LtOk ltL where
  asym := fun a b h => ltL_false.mpr (ole_of_lt (eq_of_beq h))
  trans := fun a b c h k => ltL_false.mpr (ole_trans (ltL_false.mp k) (ltL_false.mp h))
theorem cat_le {a b : List UInt8} (ha : GoodRow a) (hb : GoodRow b) (h : ole (wk a) (wk b)) : ole (b64 a ++ b64 b) (b64 b ++ b64 a) := by
  unfold ole
  rw [ord_wide (b64_good ha) (b64_good hb)]
  unfold wk at h
  rw [nrm_of ha, nrm_of hb] at h
  exact h
structure LexOk (R : List UInt8 → List UInt8 → Prop) : Prop where
  refl : ∀ a, R a a
  trans : ∀ a b c, R a b → R b c → R a c
  pre : ∀ p a b, R a b → R (p ++ a) (p ++ b)
  post : ∀ a b s, a.length = b.length → R a b → R (a ++ s) (b ++ s)
theorem ole_pre : ∀ (p a b : List UInt8), ole a b → ole (p ++ a) (p ++ b) := fun p a b h => by
  unfold ole at *
  rw [ord_app _ _ rfl, ord_refl]; exact h
theorem ole_post : ∀ (a b s : List UInt8), a.length = b.length → ole a b → ole (a ++ s) (b ++ s) := fun a b s hl h => by
  unfold ole at *
  rw [ord_app _ _ hl, ord_refl]
  cases e : ord a b <;> rw [e] at h
  · decide
  · decide
  · exact absurd rfl h
theorem ole_lex : LexOk ole := ⟨ole_refl, fun _ _ _ => ole_trans, ole_pre, ole_post⟩
theorem elo_lex : LexOk fun a b => ole b a := ⟨ole_refl, fun _ _ _ h k => ole_trans k h, fun p a b => ole_pre p b a, fun a b s hl => ole_post b a s hl.symm⟩
theorem draw {R : List UInt8 → List UInt8 → Prop} (L : LexOk R) (a : List UInt8) : ∀ (t u : List (List UInt8)), (∀ x ∈ t, R (a ++ x) (x ++ a)) → R (a ++ (t.flatten ++ u.flatten)) (t.flatten ++ (a ++ u.flatten))
  | [], u, _ => L.refl _
  | x :: t, u, h => by
    have h1 := L.post _ _ (t.flatten ++ u.flatten) (by simp only [List.length_append]; walk_at "om") (h x (.head _))
    have h2 := L.pre x _ _ (draw L a t u fun y hy => h y (.tail _ hy))
    simp only [List.flatten_cons, List.append_assoc] at h1 h2 ⊢
    exact L.trans _ _ _ h1 h2
theorem least_cat {R : List UInt8 → List UInt8 → Prop} (L : LexOk R) : ∀ (s t : List (List UInt8)), s.Pairwise (fun a b => R (a ++ b) (b ++ a)) → (∀ a ∈ s, R (a ++ a) (a ++ a)) → s.Perm t → R s.flatten t.flatten
  | [], t, _, _, p => by rw [List.nil_perm.mp p]; exact L.refl _
  | a :: s, t, hs, _, p => by
    have hm : a ∈ t := p.mem_iff.mp (.head _)
    obtain ⟨t1, t2, rfl⟩ := List.append_of_mem hm
    have p' : s.Perm (t1 ++ t2) := (List.perm_cons a).mp (p.trans List.perm_middle)
    obtain ⟨ha, hs'⟩ := List.pairwise_cons.mp hs
    have h1 : R s.flatten (t1 ++ t2).flatten := least_cat L s _ hs' (fun _ _ => L.refl _) p'
    have h2 := draw L a t1 t2 fun x hx => ha x (p'.mem_iff.mpr (List.mem_append_left _ hx))
    have h3 := L.pre a _ _ h1
    simp only [List.flatten_append, List.flatten_cons] at h1 h2 h3 ⊢
    exact L.trans _ _ _ h3 h2
theorem perm_map_ex {α β : Type} (f : α → β) : ∀ (l : List α) (s : List β), s.Perm (l.map f) → ∃ l' : List α, l'.Perm l ∧ s = l'.map f
  | [], s, p => ⟨[], .refl _, List.perm_nil.mp p⟩
  | x :: l, s, p => by
    have hm : f x ∈ s := p.mem_iff.mpr (by simp)
    obtain ⟨s1, s2, rfl⟩ := List.append_of_mem hm
    have p' : (s1 ++ s2).Perm (l.map f) := (List.perm_cons (f x)).mp (List.perm_middle.symm.trans p)
    obtain ⟨l', hl, he⟩ := perm_map_ex f l _ p'
    obtain ⟨l1, l2, rfl, h1, h2⟩ := List.append_eq_map_iff.mp he
    exact ⟨l1 ++ x :: l2, List.perm_middle.trans (hl.cons x), by rw [List.map_append, List.map_cons, h1, h2]⟩
theorem getD_take_drop {xs : List Int} {k : Nat} (hk : k < xs.length) : xs.Perm (xs.getD k 0 :: (xs.take k ++ xs.drop (k + 1))) := by
  have e : xs = xs.take k ++ xs.getD k 0 :: xs.drop (k + 1) := by
    conv => lhs; rw [← List.take_append_drop k xs, List.drop_eq_getElem_cons hk]
    rw [List.getD_eq_getElem?_getD, List.getElem?_eq_getElem hk]; rfl
  have q := List.perm_middle (a := xs.getD k 0) (l₁ := xs.take k) (l₂ := xs.drop (k + 1))
  rw [← e] at q
  exact q
theorem orders_all : ∀ (n : Nat) (xs p : List Int), xs.length ≤ n → p.Perm xs → p ∈ orders n xs
  | n, [], p, _, h => by
    have h1 : orders n [] = [[]] := by cases n <;> rfl
    rw [h1, List.perm_nil.mp h]; exact .head _
  | 0, _ :: _, p, hl, _ => by simp at hl
  | n + 1, x :: xs, p, hl, h => by
    cases p with
    | nil => have := h.length_eq; simp at this
    | cons y p =>
      have hm : y ∈ x :: xs := h.mem_iff.mp (.head _)
      obtain ⟨k, hk, e⟩ := List.getElem_of_mem hm
      rw [orders, List.mem_flatMap]
      refine ⟨k, List.mem_range.mpr hk, List.mem_map.mpr ⟨p, orders_all n _ p ?_ ?_, ?_⟩⟩
      · simp only [List.length_cons] at hl hk
        simp only [List.length_append, List.length_take, List.length_drop, List.length_cons]; walk_at "om"
      · have q := h.trans (getD_take_drop hk)
        have e' : (x :: xs).getD k 0 = y := by rw [List.getD_eq_getElem?_getD, List.getElem?_eq_getElem hk, e]; rfl
        rw [e'] at q
        exact (List.perm_cons y).mp q
      · have e' : (x :: xs).getD k 0 = y := by rw [List.getD_eq_getElem?_getD, List.getElem?_eq_getElem hk, e]; rfl
        rw [e']
theorem orders_perm : ∀ (n : Nat) (xs p : List Int), p ∈ orders n xs → p.Perm xs
  | n, [], p, h => by
    have h1 : orders n [] = [[]] := by cases n <;> rfl
    rw [h1] at h; rw [List.mem_singleton.mp h]
  | 0, _ :: _, p, h => nomatch h
  | n + 1, x :: xs, p, h => by
    rw [orders, List.mem_flatMap] at h
    obtain ⟨k, hk, h⟩ := h
    obtain ⟨q, hq, rfl⟩ := List.mem_map.mp h
    exact ((orders_perm n _ q hq).cons _).trans (getD_take_drop (List.mem_range.mp hk)).symm
end Mine
set_option tactic.hygienic false
open PySem PySem.W PySem.Calls PyProof.Rows
set_option Elab.async false
set_option maxRecDepth 100000
set_option linter.unusedVariables false
set_option linter.unusedSimpArgs false
namespace Mine
noncomputable def idxs (n : Nat) : List Int := (List.range n).map fun (i : Nat) => (i : Int)
noncomputable def rowAt (rs : List (List UInt8)) (k : Int) : List UInt8 := rs.getD k.toNat []
noncomputable def textOf (rs : List (List UInt8)) (o : List Int) : List UInt8 := (o.map fun k => b64 (rowAt rs k)).flatten
noncomputable def textsOf (rs : List (List UInt8)) : List (List UInt8) := (orders 5 (idxs rs.length)).map (textOf rs)
theorem rowAt_idxs (rs : List (List UInt8)) : (idxs rs.length).map (rowAt rs) = rs := by
  apply List.ext_getElem?
  intro i
  unfold idxs rowAt
  rw [List.map_map]
  by_cases h : i < rs.length
  · rw [List.getElem?_map, List.getElem?_range h]
    simp [h]
  · rw [List.getElem?_eq_none (by simpa using h), List.getElem?_eq_none (by simpa using h)]
theorem idxs_len (n : Nat) : (idxs n).length = n := by simp [idxs]
theorem textOf_eq (rs : List (List UInt8)) (o : List Int) : textOf rs o = ((o.map (rowAt rs)).map b64).flatten := by unfold textOf; rw [List.map_map]; rfl
theorem text_mem {rs s : List (List UInt8)} (h5 : rs.length ≤ 5) (p : s.Perm rs) : (s.map b64).flatten ∈ textsOf rs := by
  have p' : s.Perm ((idxs rs.length).map (rowAt rs)) := by rw [rowAt_idxs]; exact p
  obtain ⟨l', h1, h2⟩ := perm_map_ex (rowAt rs) _ _ p'
  refine List.mem_map.mpr ⟨l', orders_all 5 _ _ (by rw [idxs_len]; exact h5) h1, ?_⟩
  rw [textOf_eq, h2]
theorem text_perm {rs : List (List UInt8)} {t : List UInt8} (h : t ∈ textsOf rs) : ∃ s : List (List UInt8), s.Perm rs ∧ t = (s.map b64).flatten := by
  obtain ⟨o, ho, rfl⟩ := List.mem_map.mp h
  refine ⟨o.map (rowAt rs), ?_, textOf_eq rs o⟩
  have := (orders_perm 5 _ _ ho).map (rowAt rs)
  rw [rowAt_idxs] at this
  exact this
theorem least_text {R : List UInt8 → List UInt8 → Prop} (L : LexOk R) {rs s : List (List UInt8)} (p : s.Perm rs) (hs : s.Pairwise fun a b => R (b64 a ++ b64 b) (b64 b ++ b64 a)) : ∀ t ∈ textsOf rs, R (s.map b64).flatten t := by
  intro t ht
  obtain ⟨s', p', rfl⟩ := text_perm ht
  refine least_cat L _ _ ?_ (fun _ _ => L.refl _) ((p.trans p'.symm).map b64)
  rw [List.pairwise_map]
  exact hs
theorem sorted_first {rs : List (List UInt8)} {ks : List Ky} (hr : ∀ r ∈ rs, GoodRow r) (p : (ks.map (·.2)).Perm rs) (h : ks.Pairwise fun a b => ltF b a = false) : (ks.map (·.2)).Pairwise fun a b => ole (b64 a ++ b64 b) (b64 b ++ b64 a) := by
  rw [List.pairwise_map]
  refine h.imp_of_mem fun {a b} ha hb q => ?_
  exact cat_le (hr _ (p.mem_iff.mp (List.mem_map_of_mem ha))) (hr _ (p.mem_iff.mp (List.mem_map_of_mem hb))) (ltF_false.mp q)
theorem sorted_last {rs : List (List UInt8)} {ks : List Ky} (hr : ∀ r ∈ rs, GoodRow r) (p : (ks.map (·.2)).Perm rs) (h : ks.Pairwise fun a b => ltL b a = false) : (ks.map (·.2)).Pairwise fun a b => ole (b64 b ++ b64 a) (b64 a ++ b64 b) := by
  rw [List.pairwise_map]
  refine h.imp_of_mem fun {a b} ha hb q => ?_
  exact cat_le (hr _ (p.mem_iff.mp (List.mem_map_of_mem hb))) (hr _ (p.mem_iff.mp (List.mem_map_of_mem ha))) (ltL_false.mp q)
theorem first_is_min {rs : List (List UInt8)} {ks : List Ky} {m : List UInt8} (h5 : rs.length ≤ 5) (hr : ∀ r ∈ rs, GoodRow r) (p : (ks.map (·.2)).Perm rs) (h : ks.Pairwise fun a b => ltF b a = false) (hm : m ∈ textsOf rs) (hl : ∀ x ∈ textsOf rs, ole m x) : ((ks.map (·.2)).map b64).flatten = m :=
  ole_antisymm (least_text ole_lex p (sorted_first hr p h) m hm) (hl _ (text_mem h5 p))
theorem last_is_max {rs : List (List UInt8)} {ks : List Ky} {m : List UInt8} (h5 : rs.length ≤ 5) (hr : ∀ r ∈ rs, GoodRow r) (p : (ks.map (·.2)).Perm rs) (h : ks.Pairwise fun a b => ltL b a = false) (hm : m ∈ textsOf rs) (hl : ∀ x ∈ textsOf rs, ole x m) : ((ks.map (·.2)).map b64).flatten = m :=
  ole_antisymm (hl _ (text_mem h5 p)) (least_text elo_lex p (sorted_last hr p h) m hm)
end Mine
set_option tactic.hygienic false
open PySem PySem.W PySem.Calls PyProof.Rows
set_option Elab.async false
set_option maxRecDepth 100000
set_option maxHeartbeats 1000000
set_option linter.unusedVariables false
set_option linter.unusedSimpArgs false
namespace Mine
section
variable {w : World} {A : Around} {env : Env} {g : Heap} {ρ : Vars} {μ : Mu} {P : Heap → Fl → Vars → Mu → Prop}
theorem Kpt.key {K f : Addr} (ok : KeyOk g K f) : Kpt g (.ref K) := fun M h le => by
  obtain ⟨N, md, f₁, f₂, f₃, f₄, f₅, f₆, c, C, F₁, F₂, hc⟩ := ok
  have KO := (C.mono le).frag (F₁.mono le) (F₂.mono le)
  obtain ⟨k, hk, L⟩ := looks_keep (f := .ref K) (M := M) KO.keep KO.X
  exact ⟨k, by rcases hk with h | h; exact .inl h; exact .inr (.inl h), L⟩
theorem OX2.base {value slice : Expr} {a b : AV} {P : Heap → AV → Mu → Prop} (h : OX2 w A (subscriptTail (.Name (Str.ofString "_") ⟨0, 0, 0, 0⟩) slice) a b g μ P) : OX2 w A (subscriptTail value slice) a b g μ P :=
  fun s E Q va vb B le M r1 r2 k => kba_turn (value' := .Name (Str.ofString "_") ⟨0, 0, 0, 0⟩) (fun _ => rfl) (h s E Q va vb B le M r1 r2 k)
theorem OX2.isInst {C D a b : Addr} {x y : List UInt8} {P : Heap → AV → Mu → Prop} (h : P g (.bool (a == b)) μ) : OX2 w A (compareOp .Is) (.inst C a x) (.inst D b y) g μ P := by
  intro s E Q va vb B le M r1 r2 k
  obtain ⟨_, _, rfl, hx, hd, hz⟩ := r1.inv
  obtain ⟨_, _, rfl, hx', hd', hz'⟩ := r2.inv
  by_cases e : a = b
  · subst e
    refine wpAny_is_ref_self (k g _ μ _ s.heap s.toks h (.refl le M) ?_)
    rw [beq_self_eq_true]; exact .bool _
  · refine wpAny_is_ref_other e (le _ _ hx) (le _ _ hx') (by nofun) (k g _ μ _ s.heap s.toks h (.refl le M) ?_)
    rw [beq_eq_false_iff_ne.mpr e]; exact .bool _
end
noncomputable abbrev pr (K : Addr) (k : Ky) : AV := .list [.inst K k.1 k.2, .bytes k.2]
noncomputable abbrev sKey : Str := Str.ofString "key"
noncomputable abbrev sRow : Str := Str.ofString "row"
section
variable {w : World} {A : Around} {env : Env}
theorem pairs_comp {n : Nat} (Rm : Room A (n + 2)) {K f : Addr} {P : CP} {px p₁ p₂ p₃ p₄ p₅ : Pos} (hk : env.kindOf sRow = some .local) (hkey : env.kindOf sKey = some .cell) :
    ∀ (rs : List (List UInt8)) {g : Heap} {ρ : Vars} (ds : List Ky), KeyOk g K f → AllIn ρ [(sKey, .raw (.ref K))] → (∀ r ∈ rs, GoodRow r) → (∀ k ∈ ds, ∃ o, g.get? k.1 = some o) → (ds.map (·.1)).Nodup → ds.length + rs.length ≤ 2 ^ 20 →
      (∀ g' ρ' ks, Le g g' → ks.map (·.2) = rs → ((ds ++ ks).map (·.1)).Nodup → P g' ρ' none ((ds ++ ks).map (pr K))) →
      CompX w A env (.Name sRow px) [] (.List [.Call (.Name sKey p₁) [.Name sRow p₂] [] p₃, .Name sRow p₄] p₅) P (rs.map .bytes) g ρ none (ds.map (pr K))
  | [], g, ρ, ds, _, _, _, _, nd, _, done => by
    have := done g ρ [] (.refl _) rfl (by rw [List.append_nil]; exact nd)
    rw [List.append_nil] at this
    exact this
  | r :: rs, g, ρ, ds, ok, hi, hr, hd, nd, hz, done => by
    simp only [List.length_cons] at hz
    refine ⟨_, AsL.name hk, ?_⟩
    show EX w A env _ g _ none _
    refine EX.of ?_ (hi.setv' (x := sRow) (v := .bytes r) (by rfl))
    refine EX.list (LX.cons (EX.call (n := n + 2) Rm (EX.nameC (a := .raw (.ref K)) (by rfl) hkey ⟨_, rfl, fun _ => Kpt.key ok, LX.cons (EX.name (a := .bytes r) (by rfl) hk (LX.nil ?_))⟩)))
    refine mk_CX (hr r (.head _)) ok fun g₁ x l₁ hx ho => LX.cons (EX.name (a := .bytes r) (by rfl) hk (LX.nil ⟨by rw [sizeLine_eq]; simp, fun g₂ l₂ => ?_⟩))
    refine ⟨by rw [List.length_map]; walk_at "om", ?_⟩
    have ha : ∀ k ∈ ds ++ [(x, r)], ∃ o, g₂.get? k.1 = some o := fun k hk => by
      rcases List.mem_append.mp hk with hk | hk
      · obtain ⟨o, e⟩ := hd k hk; exact ⟨o, l₂ _ _ (l₁ _ _ e)⟩
      · rw [List.mem_singleton.mp hk]; obtain ⟨o, e⟩ := ho; exact ⟨o, l₂ _ _ e⟩
    have nd' : ((ds ++ [(x, r)]).map (·.1)).Nodup := by
      rw [List.map_append, List.nodup_append]
      refine ⟨nd, by simp, fun a ha b hb => ?_⟩
      simp only [List.map_cons, List.map_nil, List.mem_singleton] at hb
      obtain ⟨k, hk, rfl⟩ := List.mem_map.mp ha
      rintro rfl
      obtain ⟨o, e⟩ := hd k hk
      rw [hb, hx] at e; cases e
    have := pairs_comp Rm (f := f) (P := P) (px := px) (p₁ := p₁) (p₂ := p₂) (p₃ := p₃) (p₄ := p₄) (p₅ := p₅) hk hkey rs (g := g₂) (ρ := setv ρ sRow (.bytes r)) (ds ++ [(x, r)]) (ok.mono (l₁.trans l₂)) (hi.setv (by rfl)) (fun r' h' => hr r' (.tail _ h')) ha nd' (by simp; walk_at "om")
      (fun g' ρ' ks l e nd'' => by
        have := done g' ρ' ((x, r) :: ks) ((l₁.trans l₂).trans l) (by rw [List.map_cons, e]) (by rw [List.append_assoc] at nd''; exact nd'')
        rw [List.append_assoc]
        exact this)
    rw [List.map_append] at this
    exact this
end
end Mine
set_option tactic.hygienic false
open PySem PySem.W PySem.Calls PyProof.Rows
set_option Elab.async false
set_option maxRecDepth 100000
set_option maxHeartbeats 4000000
set_option linter.unusedVariables false
set_option linter.unusedSimpArgs false
namespace Mine
theorem sorted_uniq : ∀ {l l' : List Int}, l.Perm l' → l.Pairwise (· ≤ ·) → l'.Pairwise (· ≤ ·) → l = l'
  | [], l', p, _, _ => (List.nil_perm.mp p).symm
  | a :: l, [], p, _, _ => by have := p.length_eq; simp at this
  | a :: l, b :: l', p, h, k => by
    obtain ⟨h1, h2⟩ := List.pairwise_cons.mp h
    obtain ⟨k1, k2⟩ := List.pairwise_cons.mp k
    have e : a = b := by
      have x : a ∈ b :: l' := p.mem_iff.mp (.head _)
      have y : b ∈ a :: l := p.mem_iff.mpr (.head _)
      rcases List.mem_cons.mp x with x | x
      · exact x
      · rcases List.mem_cons.mp y with y | y
        · exact y.symm
        · have := k1 a x; have := h1 b y; walk_at "om"
    subst e
    rw [sorted_uniq ((List.perm_cons a).mp p) h2 k2]
noncomputable def fK (ks : List Ky) (i : Nat) : Ky := ks.getD i (0, [])
theorem fK_get {ks : List Ky} {i : Nat} (h : i < ks.length) : ks[i]? = some (fK ks i) := by unfold fK; rw [List.getD_eq_getElem?_getD, List.getElem?_eq_getElem h]; rfl
theorem fK_range (ks : List Ky) : (List.range ks.length).map (fK ks) = ks := by
  apply List.ext_getElem?
  intro i
  by_cases h : i < ks.length
  · rw [List.getElem?_map, List.getElem?_range h, fK_get h]; rfl
  · rw [List.getElem?_eq_none (by simpa using h), List.getElem?_eq_none (by simpa using h)]
theorem fK_inj {ks : List Ky} (nd : (ks.map (·.1)).Nodup) {i j : Nat} (hi : i < ks.length) (hj : j < ks.length) (h : (fK ks i).1 = (fK ks j).1) : i = j := by
  have e1 : (ks.map (·.1))[i]? = some (fK ks i).1 := by rw [List.getElem?_map, fK_get hi]; rfl
  have e2 : (ks.map (·.1))[j]? = some (fK ks j).1 := by rw [List.getElem?_map, fK_get hj]; rfl
  have hi' : i < (ks.map (·.1)).length := by simpa using hi
  exact (List.getElem?_inj hi' nd).mp (by rw [e1, e2, h])
theorem find_one {ks : List Ky} (nd : (ks.map (·.1)).Nodup) {k : Ky} (hk : k ∈ ks) : ∃ j, j < ks.length ∧ fK ks j = k ∧ (List.range ks.length).filter (fun i => (fK ks i).1 == k.1) = [j] := by
  obtain ⟨j, hj, e⟩ := List.getElem_of_mem hk
  have ej : fK ks j = k := by have := fK_get hj; rw [List.getElem?_eq_getElem hj, e] at this; exact (Option.some.inj this).symm
  refine ⟨j, hj, ej, ?_⟩
  have h1 : ∀ i ∈ List.range ks.length, ((fK ks i).1 == k.1) = (i == j) := fun i hi => by
    have hi' := List.mem_range.mp hi
    by_cases q : i = j
    · subst q; rw [ej]; simp
    · have : (fK ks i).1 ≠ k.1 := fun z => q (fK_inj nd hi' hj (by rw [ej]; exact z))
      rw [beq_eq_false_iff_ne.mpr this, beq_eq_false_iff_ne.mpr q]
  rw [List.filter_congr h1]
  have h2 : ∀ n, j < n → (List.range n).filter (· == j) = [j] := by
    intro n hn
    induction n with
    | zero => walk_at "om"
    | succ n ih =>
      rw [List.range_succ, List.filter_append]
      by_cases q : j = n
      · subst q
        have : (List.range j).filter (· == j) = [] := List.filter_eq_nil_iff.mpr fun x hx => by
          have := List.mem_range.mp hx
          simp; walk_at "om"
        rw [this]; simp
      · rw [ih (by walk_at "om")]
        have : (n == j) = false := beq_eq_false_iff_ne.mpr (Ne.symm q)
        simp [this]
  exact h2 _ hj
theorem map_inj_on {α β : Type} {f : α → β} : ∀ {l l' : List α}, (∀ x ∈ l, ∀ y ∈ l', f x = f y → x = y) → l.map f = l'.map f → l = l'
  | [], [], _, _ => rfl
  | [], _ :: _, _, h => by simp at h
  | _ :: _, [], _, h => by simp at h
  | x :: l, y :: l', hf, h => by
    simp only [List.map_cons, List.cons.injEq] at h
    rw [hf x (.head _) y (.head _) h.1, map_inj_on (fun a ha b hb => hf a (.tail _ ha) b (.tail _ hb)) h.2]
theorem places_perm {ks : List Ky} (nd : (ks.map (·.1)).Nodup) {pl : List Nat} (hl : ∀ i ∈ pl, i < ks.length) (p : (pl.map (fK ks)).Perm ks) : pl.Perm (List.range ks.length) := by
  have p' : (pl.map (fK ks)).Perm ((List.range ks.length).map (fK ks)) := by rw [fK_range]; exact p
  obtain ⟨l', h1, h2⟩ := perm_map_ex (fK ks) _ _ p'
  rw [map_inj_on (fun x hx y hy e => fK_inj nd (hl x hx) (List.mem_range.mp (h1.mem_iff.mp hy)) (by rw [e])) h2]
  exact h1
structure Inv (lt : Ky → Ky → Bool) (ks : List Ky) (hs : List Ky) (pl : List Nat) : Prop where
  heap : IsHeap lt hs
  perm : (pl.map (fK ks) ++ hs).Perm ks
  sorted : (pl.map (fK ks)).Pairwise fun a b => lt b a = false
  below : ∀ a ∈ pl.map (fK ks), ∀ b ∈ hs, lt b a = false
  small : ∀ i ∈ pl, i < ks.length
theorem Inv.start {lt : Ky → Ky → Bool} {ks hs : List Ky} (H : IsHeap lt hs) (p : hs.Perm ks) : Inv lt ks hs [] := ⟨H, p, .nil, (fun a ha => nomatch ha), (fun i hi => nomatch hi)⟩
theorem Inv.step {lt : Ky → Ky → Bool} (L : LtOk lt) {ks hs : List Ky} {pl : List Nat} (nd : (ks.map (·.1)).Nodup) (I : Inv lt ks hs pl) (hne : hs ≠ []) : ∃ k hs' j, popped lt hs = some (k, hs') ∧ k ∈ ks ∧ j < ks.length ∧ fK ks j = k ∧
    (List.range ks.length).filter (fun i => (fK ks i).1 == k.1) = [j] ∧ (∀ a ∈ pl.map (fK ks), lt k a = false) ∧ Inv lt ks hs' (pl ++ [j]) ∧ hs'.length < hs.length := by
  obtain ⟨k, hs', h1, h2, h3, h4⟩ := popped_spec L I.heap hne
  have hk : k ∈ hs := h3.mem_iff.mpr (.head _)
  have hkk : k ∈ ks := I.perm.mem_iff.mp (List.mem_append_right _ hk)
  obtain ⟨j, hj, ej, hf⟩ := find_one nd hkk
  refine ⟨k, hs', j, h1, hkk, hj, ej, hf, fun a ha => I.below a ha k hk, ⟨h2, ?_, ?_, ?_, ?_⟩, by have := h3.length_eq; simp at this; walk_at "om"⟩
  · rw [List.map_append, List.map_cons, List.map_nil, ej, List.append_assoc]
    exact ((List.Perm.refl _).append h3.symm).trans I.perm
  · rw [List.map_append, List.map_cons, List.map_nil, ej, List.pairwise_append]
    exact ⟨I.sorted, List.pairwise_singleton _ _, fun a ha b hb => by rw [List.mem_singleton.mp hb]; exact I.below a ha k hk⟩
  · intro a ha b hb
    have hb' : b ∈ hs := h3.mem_iff.mpr (.tail _ hb)
    rw [List.map_append, List.map_cons, List.map_nil, ej] at ha
    rcases List.mem_append.mp ha with ha | ha
    · exact I.below a ha b hb'
    · rw [List.mem_singleton.mp ha]; exact h4 b hb'
  · intro i hi
    rcases List.mem_append.mp hi with hi | hi
    · exact I.small i hi
    · rw [List.mem_singleton.mp hi]; exact hj
theorem Inv.len {lt : Ky → Ky → Bool} {ks hs : List Ky} {pl : List Nat} (I : Inv lt ks hs pl) : pl.length + hs.length = ks.length := by have := I.perm.length_eq; simpa using this
end Mine
set_option tactic.hygienic false
open PySem PySem.W PySem.Calls PyProof.Rows
set_option Elab.async false
set_option maxRecDepth 100000
set_option maxHeartbeats 4000000
set_option linter.unusedVariables false
set_option linter.unusedSimpArgs false
namespace Mine
noncomputable abbrev sRows : Str := Str.ofString "rows"
noncomputable abbrev sPairs : Str := Str.ofString "pairs"
noncomputable abbrev sHeap : Str := Str.ofString "heap"
noncomputable abbrev sPlaces : Str := Str.ofString "places"
noncomputable abbrev sOne : Str := Str.ofString "one"
noncomputable abbrev nl (pl : List Nat) : AV := .list (pl.map fun (i : Nat) => AV.int i)
section
variable {w : World} {g : Heap} {P : Heap → AV → Mu → Prop}
noncomputable def offVars (rs : List (List UInt8)) (K : Addr) (ks : List Ky) (ad : Addr) (pl : List Nat) : Vars :=
  [(sRows, .list (rs.map .bytes)), (sKey, .raw (.ref K)), (sPairs, .list (ks.map (pr K))), (sHeap, .mlist ad), (sPlaces, nl pl)]
noncomputable abbrev OffW (lt : Ky → Ky → Bool) (rs : List (List UInt8)) (K : Addr) (ks : List Ky) (ad : Addr) (g₅ : Heap) : Nat → Heap → Vars → Mu → Prop := fun n g' ρ' μ' => ∃ hs pl, n = hs.length ∧ Le g₅ g' ∧ AllIn ρ' (offVars rs K ks ad pl) ∧ μ' = some (.lst ad (avs K hs)) ∧ Inv lt ks hs pl
noncomputable abbrev OffI (lt : Ky → Ky → Bool) (rs : List (List UInt8)) (K : Addr) (ks : List Ky) (ad : Addr) (g₄ : Heap) : List AV → Heap → Vars → Mu → Prop := fun vs g' ρ' μ' => ∃ d r hs, vs = r.map (pr K) ∧ ks = d ++ r ∧ Le g₄ g' ∧ AllIn ρ' (offVars rs K ks ad []) ∧ μ' = some (.lst ad (avs K hs)) ∧ IsHeap lt hs ∧ hs.Perm d
theorem TX.of {A : Around} {env : Env} {ρ : Vars} {μ : Mu} {e : Expr} {ρ₂ : Vars} {P : Heap → Bool → Mu → Prop} (h : TX w A env e g ρ₂ μ P) (hi : AllIn ρ ρ₂) : TX w A env e g ρ μ P := fun s E Q R k => h s E Q (R.forget hi) k
theorem off_CX {m : Nat} {K f : Addr} {lt : Ky → Ky → Bool} {rs : List (List UInt8)} (L : LtOk lt) (ok : KeyOk g K f) (hc : Cmp w m K lt g) (hr : ∀ r ∈ rs, GoodRow r) (hz : rs.length ≤ 5)
    (hp : ∀ g' (ks : List Ky), Le g g' → (ks.map (·.2)).Perm rs → ks.Pairwise (fun a b => lt b a = false) → P g' (.list ((ks.map (·.2)).map .bytes)) none) : CX w (m + 4) (.ref 117) [.list (rs.map .bytes), .raw (.ref K)] g none P := by
  refine CX.drop ?_
  refine CX.topC (n := m + 3) (ρ₀ := [(sRows, .list (rs.map .bytes)), (sKey, .raw (.ref K))]) (by exact rfl) (by exact rfl) (bindR2 (x := sRows) (y := sKey) fun _ _ => rfl) rfl (by decide) (fun Lo => ⟨.inr ⟨rfl, rfl⟩, .inr ⟨rfl, rfl⟩, trivial⟩) (fun A Lo Rm => ?_)
  refine SX.cons (S1.assignT (ρ' := []) (EX.tuple (LX.cons (EX.comp (cl := [(sKey, Lo + 2)]) (ρc := [(sKey, .raw (.ref K))]) (by rfl) ⟨⟨rfl, .inl rfl, rfl, nofun⟩, trivial⟩ ⟨rfl, trivial⟩ ?_))))
  walk_at "nc"
  refine ⟨_, Src.list Rm.hh, fun C => ?_⟩
  refine pairs_comp (n := m + 1) Rm (by rfl) (by rfl) rs [] ok ⟨rfl, trivial⟩ hr (fun k hk => nomatch hk) .nil (by simp; walk_at "om") fun g₁ ρ₁ ks l₁ hks nd g₂ l₂ => ?_
  rw [List.nil_append] at nd ⊢
  refine LX.cons (EX.listM (LX.nil ⟨by decide, rfl, fun ad => LX.cons (EX.list (LX.nil ⟨by decide, fun g₃ l₃ => LX.nil ⟨by rw [sizeLine_eq]; simp, fun g₄ l₄ => ⟨_, _, rfl, AsX.tup Rm.hh (.cons (AsX.name (.inr ⟨rfl, rfl⟩)) (.cons (AsX.name (.inl rfl)) (.cons (AsX.name (.inl rfl)) .nil))) (by rfl) (by rfl), ?_⟩⟩⟩))⟩))
  have l04 := ((l₁.trans l₂).trans l₃).trans l₄
  have hkl : ks.length = rs.length := by rw [← hks, List.length_map]
  show SX _ _ _ _ _ (offVars rs K ks ad []) _ _
  refine SX.cons (S1.for ?_)
  walk_at "nc"
  refine ⟨_, Src.list Rm.hh, ?_⟩
  refine ForX.inv (OffI lt rs K ks ad g₄) ?_ ?_ ⟨[], ks, [], rfl, rfl, .refl _, ⟨rfl, rfl, rfl, rfl, rfl, trivial⟩, rfl, fun i a p hi ea => by simp at ea, .refl _⟩
  · rintro v vs g' ρ' _ ⟨d, r, hs, hv, hd, lg, hi, rfl, hh, hpm⟩
    cases r with
    | nil => cases hv
    | cons k r =>
    simp only [List.map_cons, List.cons.injEq] at hv
    obtain ⟨rfl, rfl⟩ := hv
    refine ⟨_, AsX.pair Rm.hh (AsX.name (.inr ⟨rfl, rfl⟩)) (AsX.name (.inl rfl)), ?_⟩
    have hi2 := (hi.setv (x := sOne) (v := .inst K k.1 k.2) (by rfl)).setv (x := sRow) (v := .bytes k.2) (by rfl)
    have h1 : (setv (setv ρ' sOne (.inst K k.1 k.2)) sRow (.bytes k.2)).lookup sOne = some (.inst K k.1 k.2) := by rw [setv_lookup, if_neg (by decide), setv_lookup, if_pos rfl]
    refine SX.of (ρ₂ := (sOne, .inst K k.1 k.2) :: offVars rs K ks ad []) ?_ ⟨h1, hi2⟩
    refine SX.cons (S1.expr (EX.call (n := m + 2) (Rm.le (by walk_at "om")) ?_))
    walk_at "fn"
    refine LX.cons ?_
    walk_at "nm"
    refine LX.cons ?_
    walk_at "nc"
    have hl1 : hs.length = d.length := hpm.length_eq
    have hl2 : ks.length = d.length + (r.length + 1) := by rw [hd]; simp
    refine LX.nil (heappush_CX (hc.to (l04.trans lg)) (by walk_at "om") fun g'' l'' => ⟨rfl, SX.nil ?_⟩)
    refine ⟨d ++ [k], r, _, rfl, by rw [hd]; simp, lg.trans l'', ⟨rfl, rfl, rfl, rfl, rfl, trivial⟩, rfl, pushed_heap L hh, pushed_perm.trans (hpm.append (.refl _))⟩
  rintro g₅ ρ₅ _ ⟨d, r, hs, hv, hd, l₅, hi, rfl, hh, hpm⟩
  have hr0 : r = [] := by cases r with | nil => rfl | cons b r => cases hv
  subst hr0
  rw [List.append_nil] at hd
  subst hd
  refine SX.of ?_ hi
  refine SX.cons (S1.while (OffW lt rs K ks ad g₅) (fun n g₆ ρ₆ μ₆ hI => ?_) hs.length ⟨hs, [], rfl, .refl _, ⟨rfl, rfl, rfl, rfl, rfl, trivial⟩, rfl, .start hh hpm⟩)
  clear hi hh hpm
  obtain ⟨hs, pl, rfl, l₆, hi₆, rfl, I⟩ := hI
  have hlen := I.len
  have l06 := (l04.trans l₅).trans l₆
  refine TX.of (ρ₂ := offVars rs K ks ad pl) (TX.cmp ?_) hi₆
  walk_at "nm"
  refine EX.list (LX.nil ⟨by decide, fun g₇ l₇ => OX2.neNilM Rm.u ⟨_, rfl, ?_⟩⟩)
  by_cases hne : hs = []
  · subst hne
    rw [if_neg (by simp [avs])]
    refine SX.of ?_ hi₆
    have hpp : pl.Perm (List.range ks.length) := places_perm nd I.small (by have := I.perm; rwa [List.append_nil] at this)
    refine SX.cons (S1.ret (EX.ite (TX.cmp (EX.call (n := 0) (Rm.le (by walk_at "om")) ?_))))
    walk_at "bf"
    refine LX.cons ?_
    walk_at "nm"
    have e1 : nl pl = .list ((pl.map fun (i : Nat) => (i : Int)).map .int) := by simp [nl]
    refine LX.nil ?_
    rw [e1]
    have hplz : pl.length ≤ 5 := by simp only [List.length_nil] at hlen; walk_at "om"
    refine CX.sorted (by rw [List.length_map]; walk_at "om") fun ns' g₈ l₈ hperm hsort => ?_
    refine EX.call (n := 0) (Rm.le (by walk_at "om")) ?_
    walk_at "tf"
    refine LX.cons (EX.call (n := 0) (Rm.le (by walk_at "om")) ?_)
    walk_at "tf"
    refine LX.cons (EX.call (n := 0) (Rm.le (by walk_at "om")) ?_)
    walk_at "bf"
    refine LX.cons ?_
    walk_at "nc"
    refine LX.nil (CX.lenL (by rw [List.length_map]; walk_at "om") (LX.nil (CX.range1 fun g₉ l₉ => LX.nil ?_)))
    rw [List.length_map]
    refine CX.listRange (by walk_at "om") fun g₁₀ l₁₀ => ?_
    have e2 : ((List.range rs.length).map fun (i : Nat) => AV.int i) = (((List.range rs.length).map fun (i : Nat) => (i : Int)).map .int) := by simp
    rw [e2]
    have e3 : ns' = (List.range rs.length).map fun (i : Nat) => (i : Int) := by
      refine sorted_uniq (hperm.trans ?_) hsort ?_
      · rw [← hkl]; exact hpp.map _
      · rw [List.pairwise_map]
        exact (List.pairwise_lt_range).imp fun h => by walk_at "om"
    refine OX2.eqLL eqOk_int Rm.u ⟨_, rfl, ?_⟩
    rw [if_pos (by rw [e3]; exact beq_self_eq_true _)]
    refine EX.comp (cl := [(sRows, Lo + 1)]) (ρc := [(sRows, .list (rs.map .bytes))]) (by rfl) ⟨⟨rfl, .inl rfl, rfl, nofun⟩, trivial⟩ ⟨rfl, trivial⟩ ?_
    walk_at "nm"
    refine ⟨_, Src.list Rm.hh, fun C => ?_⟩
    refine CompX.mapN (fun (i : Nat) => .int i) (fun i => .bytes (rs.getD i [])) (by rfl) (fun i hi g' l' => ?_) (by walk_at "om") fun g' ρ' l' g₁₁ l₁₁ => ?_
    · have hi' : i < rs.length := by have := I.small i hi; walk_at "om"
      refine EX.sub ?_
      walk_at "nc"; walk_at "nm"
      exact OX2.itemL (x := .bytes (rs.getD i [])) ⟨fun _ _ => rfl, fun _ _ => rfl⟩ (by walk_at "om") (by walk_at "om") (by rw [Int.toNat_natCast, List.getElem?_map, List.getD_eq_getElem?_getD, List.getElem?_eq_getElem hi']; rfl) ⟨rfl, rfl⟩
    · have e4 : (pl.map fun i => AV.bytes (rs.getD i [])) = ((pl.map (fK ks)).map (·.2)).map .bytes := by
        rw [List.map_map, List.map_map]
        refine List.map_congr_left fun i hi => ?_
        have hi' := I.small i hi
        show AV.bytes _ = AV.bytes (fK ks i).2
        rw [← hks, List.getD_eq_getElem?_getD, List.getElem?_map, fK_get hi']; rfl
      rw [e4]
      have q := I.perm
      rw [List.append_nil] at q
      exact hp g₁₁ (pl.map (fK ks)) (((((l06.trans l₇).trans l₈).trans l₉).trans l₁₀).trans (l'.trans l₁₁)) (by have := q.map (·.2); rw [hks] at this; exact this) I.sorted
  · rw [if_pos (by cases hs with | nil => exact absurd rfl hne | cons a b => rfl)]
    obtain ⟨k, hs', j, hpop, hk, hj, ej, hf, hlast, I', hlt⟩ := I.step L nd hne
    refine SX.of ?_ hi₆
    refine SX.cons (S1.assign (EX.call (n := m + 3) Rm ?_) (by exact .inr ⟨rfl, rfl⟩))
    walk_at "fn"
    refine LX.cons ?_
    walk_at "nm"
    refine LX.nil (heappop_CX (hc.to (l06.trans l₇)) (by walk_at "om") hpop fun g₈ l₈ => ?_)
    refine SX.cons (S1.assign (EX.bin ?_) (by exact .inl rfl))
    walk_at "nm"
    refine EX.comp (cl := [(sPairs, Lo + 3), (sOne, Lo + 4)]) (ρc := [(sOne, .inst K k.1 k.2), (sPairs, .list (ks.map (pr K)))]) (by rfl) ⟨⟨rfl, .inl rfl, rfl, nofun⟩, ⟨rfl, .inl rfl, rfl, nofun⟩, trivial⟩ ⟨rfl, rfl, trivial⟩ (EX.call (n := 0) (Rm.le (by walk_at "om")) ?_)
    walk_at "tf"
    refine LX.cons (EX.call (n := 0) (Rm.le (by walk_at "om")) ?_)
    walk_at "bf"
    refine LX.cons ?_
    walk_at "nc"
    refine LX.nil (CX.lenL (by rw [List.length_map]; walk_at "om") (LX.nil (CX.range1 fun g₉ l₉ => ?_)))
    rw [List.length_map]
    have hrg := range_one (n := ks.length) (by walk_at "om")
    refine ⟨_, Src.rng Rm.hh hrg.1 hrg.2, fun C => ?_⟩
    refine CompX.mapF (fun (i : Nat) => .int (0 + (i : Nat) * 1)) (fun (i : Nat) => .int i) (fun i => (fK ks i).1 == k.1) (by rfl) (fun i hi g' l' => ?_) (by rw [List.length_range]; simp; walk_at "om") fun g' ρ' l' g₁₀ l₁₀ => ?_
    · have hi' : i < ks.length := List.mem_range.mp hi
      have e1 : ((0 : Int) + (i : Nat) * 1) = (i : Int) := by walk_at "om"
      rw [e1]
      show TX _ _ _ _ _ _ _ _
      refine TX.cmp (EX.sub (EX.sub ?_))
      walk_at "nc"; walk_at "nm"
      refine OX2.itemL (x := pr K (fK ks i)) ⟨fun _ _ => rfl, fun _ _ => rfl⟩ (by walk_at "om") (by walk_at "om") (by rw [Int.toNat_natCast, List.getElem?_map, fK_get hi']; rfl) (EX.cint ?_)
      refine OX2.base (OX2.itemL (x := .inst K (fK ks i).1 (fK ks i).2) ⟨fun _ _ => rfl, fun _ _ => rfl⟩ (by walk_at "om") (by walk_at "om") rfl ?_)
      walk_at "nc"
      refine OX2.isInst ⟨_, rfl, rfl, rfl, fun _ => ?_⟩
      walk_at "nm"
      exact ⟨rfl, rfl⟩
    rw [List.nil_append, hf]
    refine OX2.addL (by simp only [List.length_map, List.length_cons, List.length_nil]; walk_at "om") fun g₁₁ l₁₁ => ?_
    have e5 : AV.list ((pl.map fun (i : Nat) => AV.int i) ++ ([j].map fun (i : Nat) => AV.int i)) = nl (pl ++ [j]) := by rw [← List.map_append]
    rw [e5]
    have l11 : Le g₅ g₁₁ := ((((l₆.trans l₇).trans l₈).trans l₉).trans l').trans (l₁₀.trans l₁₁)
    refine SX.of (ρ₂ := (sOne, .inst K k.1 k.2) :: offVars rs K ks ad (pl ++ [j])) ?_ ⟨rfl, rfl, rfl, rfl, rfl, rfl, trivial⟩
    have fin : ∀ g', Le g₁₁ g' → ∃ m_1, m_1 < hs.length ∧ ∃ hs₁ pl₁, m_1 = hs₁.length ∧ Le g₅ g' ∧ AllIn ((sOne, AV.inst K k.1 k.2) :: offVars rs K ks ad (pl ++ [j])) (offVars rs K ks ad pl₁) ∧ some (MV.lst ad (avs K hs')) = some (MV.lst ad (avs K hs₁)) ∧ Inv lt ks hs₁ pl₁ := fun g' l =>
      ⟨hs'.length, hlt, hs', pl ++ [j], rfl, l11.trans l, ⟨rfl, rfl, rfl, rfl, rfl, trivial⟩, rfl, I'⟩
    refine SX.cons (S1.ite (TX.chain (TXs.and (TX.cmp (EX.call (n := 0) (Rm.le (by walk_at "om")) ?_)))))
    walk_at "bf"
    refine LX.cons ?_
    walk_at "nm"
    have hlen' := I'.len
    refine LX.nil (CX.lenL (by rw [List.length_map]; walk_at "om") (EX.cint (OX2.gt ⟨_, rfl, ?_⟩)))
    rw [List.length_map, List.length_append]
    by_cases h1 : pl = []
    · subst h1
      rw [if_neg (by simp)]
      rw [if_neg (by decide)]
      exact SX.nil (SX.nil (fin _ (.refl _)))
    · obtain ⟨pl0, i, rfl⟩ : ∃ pl0 i, pl = pl0 ++ [i] := ⟨pl.dropLast, pl.getLast h1, (List.dropLast_concat_getLast h1).symm⟩
      rw [if_pos (by simp; walk_at "om")]
      have hi' : i < ks.length := I.small i (by simp)
      have hl2 : lt (fK ks j) (fK ks i) = false := by rw [ej]; exact hlast _ (by simp)
      refine TXs.and (TX.cmp (EX.sub (EX.sub ?_)))
      walk_at "nc"
      refine EX.sub ?_
      walk_at "nm"
      refine EX.un (EX.cint (OX1.neg ?_))
      have hpl : (pl0 ++ [i] ++ [j]).length = pl0.length + 2 := by simp
      have hplz : pl0.length + 2 ≤ 5 := by rw [hpl] at hlen'; walk_at "om"
      refine OX2.itemNeg (x := .int j) ⟨fun _ _ => rfl, fun _ _ => rfl⟩ (by decide) (by rw [List.length_map, hpl]; walk_at "om") (by rw [List.length_map, hpl]; walk_at "om") ?_ ?_
      · rw [List.length_map, hpl, show (-1 + ((pl0.length + 2 : Nat) : Int)).toNat = pl0.length + 1 by walk_at "om", List.getElem?_map, List.getElem?_append_right (by simp)]
        simp
      refine OX2.itemL (x := pr K (fK ks j)) ⟨fun _ _ => rfl, fun _ _ => rfl⟩ (by walk_at "om") (by walk_at "om") (by rw [Int.toNat_natCast, List.getElem?_map, fK_get hj]; rfl) (EX.cint ?_)
      refine OX2.base (OX2.itemL (x := .inst K (fK ks j).1 (fK ks j).2) ⟨fun _ _ => rfl, fun _ _ => rfl⟩ (by walk_at "om") (by walk_at "om") rfl (EX.sub (EX.sub ?_)))
      walk_at "nc"
      refine EX.sub ?_
      walk_at "nm"
      refine EX.un (EX.cint (OX1.neg ?_))
      refine OX2.itemNeg (x := .int i) ⟨fun _ _ => rfl, fun _ _ => rfl⟩ (by decide) (by rw [List.length_map, hpl]; walk_at "om") (by rw [List.length_map, hpl]; walk_at "om") ?_ ?_
      · rw [List.length_map, hpl, show (-2 + ((pl0.length + 2 : Nat) : Int)).toNat = pl0.length by walk_at "om", List.getElem?_map, List.getElem?_append_left (by simp), List.getElem?_append_right (by simp)]
        simp
      refine OX2.itemL (x := pr K (fK ks i)) ⟨fun _ _ => rfl, fun _ _ => rfl⟩ (by walk_at "om") (by walk_at "om") (by rw [Int.toNat_natCast, List.getElem?_map, fK_get hi']; rfl) (EX.cint ?_)
      refine OX2.base (OX2.itemL (x := .inst K (fK ks i).1 (fK ks i).2) ⟨fun _ _ => rfl, fun _ _ => rfl⟩ (by walk_at "om") (by walk_at "om") rfl ?_)
      refine hc A _ _ (fK ks j) (fK ks i) _ (Rm.le (by walk_at "om")) (l04.trans (l₅.trans l11)) fun g₁₂ l₁₂ => ⟨_, rfl, ?_⟩
      rw [hl2, if_neg (by decide), if_neg (by decide)]
      exact SX.nil (SX.nil (fin _ l₁₂))
end
end Mine
set_option tactic.hygienic false
open PySem PySem.W PySem.Calls PyProof.Rows
set_option Elab.async false
set_option maxRecDepth 100000
set_option maxHeartbeats 4000000
set_option linter.unusedVariables false
set_option linter.unusedSimpArgs false
namespace Mine
noncomputable def lawD : DefP :=
  match PR.main.body.findSome? (fun | .FunctionDef n a b _ _ _ sc _ _ p => if n == Str.ofString "law" then some (⟨n, a, b, sc, p⟩ : DefP) else none | _ => none) with
  | some d => d
  | none => ⟨Str.ofString "", ⟨[], [], none, [], [], none, []⟩, [], scK, posK⟩
noncomputable def lawS : { d : DefP // d = lawD } := ⟨⟨_, _, _, _, _⟩, by rfl⟩
noncomputable abbrev lawEnv (L fa : Addr) : Env := envOfC (Str.ofString "law") lawS.1.scope L fa (.ref 135)
noncomputable abbrev sScript : Str := Str.ofString "script"
noncomputable abbrev sFirst : Str := Str.ofString "first"
noncomputable abbrev sLast : Str := Str.ofString "last"
noncomputable abbrev sOff : Str := Str.ofString "off"
noncomputable abbrev sTexts : Str := Str.ofString "texts"
noncomputable abbrev sTold : Str := Str.ofString "told"
noncomputable abbrev bl (rs : List (List UInt8)) : AV := .list (rs.map .bytes)
theorem pick2 (vs : List Value) : slicePick vs.toArray none (some (2 : Int)) none = (vs.take 2).toArray := by
  match vs with
  | [] => rfl
  | [a] =>
    have e : slicePick [a].toArray none (some (2 : Int)) none = slicePick [a].toArray none (some ((1 : Nat) : Int)) none := by
      unfold slicePick
      rw [show sliceBounds none (some (2 : Int)) none [a].toArray.size = sliceBounds none (some ((1 : Nat) : Int)) none [a].toArray.size from rfl]
    rw [e, pick_take (n := 1) [a] (by simp)]; rfl
  | a :: b :: r => exact pick_take (n := 2) _ (by simp)
theorem good_rowOf (x : Int) : GoodRow (rowOf x) := by
  unfold GoodRow rowOf rowLen
  rw [List.length_map, List.length_range]
  rcases fmod2 x with h | h <;> rw [h] <;> decide
section
variable {w : World} {g : Heap}
theorem offT {m : Nat} {K f : Addr} {lt : Ky → Ky → Bool} {rs : List (List UInt8)} {μ : Mu} {P : Heap → AV → Mu → Prop} (L : LtOk lt) (ok : KeyOk g K f) (hc : Cmp w m K lt g) (hr : ∀ r ∈ rs, GoodRow r) (hz : rs.length ≤ 5)
    (hp : ∀ g' (ks : List Ky), Le g g' → (ks.map (·.2)).Perm rs → ks.Pairwise (fun a b => lt b a = false) → P g' (bl (ks.map (·.2))) μ) : CX w (m + 4) (.ref 117) [bl rs, .raw (.ref K)] g μ P :=
  CX.frame (P' := fun g' a μ' => (∃ ks : List Ky, Le g g' ∧ (ks.map (·.2)).Perm rs ∧ ks.Pairwise (fun a b => lt b a = false) ∧ a = bl (ks.map (·.2))) ∧ μ' = none) (off_CX L ok hc hr hz fun g' ks l p s => ⟨⟨ks, l, p, s, rfl⟩, rfl⟩)
    (fun g' a ⟨⟨ks, l, p, s, e⟩, _⟩ => by rw [e]; exact hp g' ks l p s) fun g' a μ' h => h.2
theorem cmp107 : CmpFn w 4 107 cmpI g := ⟨fun g' _ B => Kpt.fn (B.K 107 _ (by exact rfl)) rfl, fun g' μ x y P l hx hy hp => compare_CX hx hy hp⟩
noncomputable def lamLaw : { p : Arguments × Expr × Scope // Expr.Lambda p.1 p.2.1 p.2.2 posLaw = (match lawS.1.body with | _ :: .Assign _ (.Tuple [_, .Call _ [e] _ _] _ _) _ :: _ => e | _ => .Constant .none 0 posLaw) } := ⟨⟨_, _, _⟩, by rfl⟩
theorem cmpLam {f : Addr} {pm cv ctv : Value} (ho : g.get? f = some (lamObj qLaw lamLaw.1.1 lamLaw.1.2.1 lamLaw.1.2.2 pm cv ctv)) (hcr : g.CodeRec cv qLaw) : CmpFn w 5 f (fun x y => cmpI y x) g := by
  refine ⟨fun g' l B => Kpt.fn (l _ _ ho) rfl, fun g' μ x y P l hx hy hp => ?_⟩
  refine CX.lam (n := 4) (ρ₀ := [(sOne, .bytes x), (Str.ofString "two", .bytes y)]) (l _ _ ho) (hcr.keeps l) (bindR2 (x := sOne) (y := Str.ofString "two") fun _ _ => rfl) rfl (by decide) (by decide) (show ∀ x ∈ lamLaw.1.2.2.names, x.2 ≠ NameKind.cell by decide) (fun A L Rm => ?_) rfl rfl rfl
  refine EX.call (n := 4) Rm ?_
  walk_at "fn"
  refine LX.cons ?_
  walk_at "nm"
  refine LX.cons ?_
  walk_at "nm"
  exact LX.nil (compare_CX hy hx hp)
end
end Mine
set_option tactic.hygienic false
open PySem PySem.W PySem.Calls PyProof.Rows
set_option Elab.async false
set_option maxRecDepth 100000
set_option maxHeartbeats 4000000
set_option linter.unusedVariables false
set_option linter.unusedSimpArgs false
namespace Mine
section
variable {w : World} {g : Heap} {A : Around} {L fa : Addr}
noncomputable abbrev prs (rs : List (List UInt8)) : AV := .list (rs.map fun r => .list [.bytes r, .bytes (b64 r)])
structure FourOk (R o1 o2 o3 o4 : List (List UInt8)) : Prop where
  p1 : o1.Perm R
  p2 : o2.Perm R
  p3 : o3.Perm R
  p4 : o4.Perm R
  m : ∀ m ∈ textsOf R, (∀ x ∈ textsOf R, ole m x) → (o1.map b64).flatten = m ∧ (o2.map b64).flatten = m
  M : ∀ m ∈ textsOf R, (∀ x ∈ textsOf R, ole x m) → (o3.map b64).flatten = m ∧ (o4.map b64).flatten = m
noncomputable abbrev lawPost (w : World) : Heap → Fl → Vars → Mu → Prop := fun g' fl ρ' μ' => fl = .ret (.bool true) ∧ ∃ pc, μ' = some (.tab pc)
theorem b64_flat : ∀ (o : List (List UInt8)), (∀ r ∈ o, r.length % 3 = 0) → b64 o.flatten = (o.map b64).flatten
  | [], _ => by simp [b64]
  | r :: o, h => by rw [List.flatten_cons, b64_append _ _ (h r (.head _)), b64_flat o fun x hx => h x (.tail _ hx)]; simp
theorem flat_mod : ∀ (o : List (List UInt8)), (∀ r ∈ o, r.length % 3 = 0) → o.flatten.length % 3 = 0
  | [], _ => rfl
  | r :: o, h => by
    have h1 := h r (.head _)
    have h2 := flat_mod o fun x hx => h x (.tail _ hx)
    rw [List.flatten_cons, List.length_append]; walk_at "om"
theorem flat_len {n : Nat} : ∀ (o : List (List UInt8)), (∀ r ∈ o, r.length ≤ n) → o.flatten.length ≤ n * o.length
  | [], _ => by simp
  | r :: o, h => by
    have h1 := h r (.head _)
    have h2 := flat_len o fun x hx => h x (.tail _ hx)
    rw [List.flatten_cons, List.length_append, List.length_cons, Nat.mul_succ]; walk_at "om"
noncomputable abbrev sText : Str := Str.ofString "text"
theorem texts_comp {env : Env} {μ : Mu} {P : CP} {n : Nat} {p₁ p₂ p₃ p₄ : Pos} (hh : A.handled = none) (hr : env.kindOf sRow = some .local) (ht : env.kindOf sText = some .local) :
    ∀ (rs : List (List UInt8)) {g : Heap} {ρ : Vars} (acc : List AV), acc.length + rs.length ≤ 2 ^ 20 → (∀ g' ρ', Le g g' → P g' ρ' μ (acc ++ rs.map fun r => .bytes (b64 r))) →
      CompX w A env (.Tuple [.Name sRow p₁, .Name sText p₂] n p₃) [] (.Name sText p₄) P (rs.map fun r => .list [.bytes r, .bytes (b64 r)]) g ρ μ acc
  | [], g, ρ, acc, _, done => by have := done g ρ (.refl _); rw [List.map_nil, List.append_nil] at this; exact this
  | r :: rs, g, ρ, acc, hz, done => by
    simp only [List.length_cons] at hz
    refine ⟨_, AsL.pair hh (AsL.name hr) (AsL.name ht), ?_⟩
    show EX w A env _ g _ μ _
    refine EX.name (a := .bytes (b64 r)) (by rw [setv_lookup, if_pos rfl]) ht ⟨by walk_at "om", ?_⟩
    exact texts_comp hh hr ht rs _ (by simp; walk_at "om") fun g' ρ' l => by rw [List.append_assoc]; exact done g' ρ' l
theorem law_tail {R o1 o2 o3 o4 : List (List UInt8)} {pc : Option Addr} {ρ : Vars} (Rm : Room A 12) (h5 : R.length ≤ 5) (h1 : R ≠ []) (hR : ∀ r ∈ R, GoodRow r) (F : FourOk R o1 o2 o3 o4) (hi : AllIn ρ [(sRows, bl R), (sOff, .list [bl o1, bl o2, bl o3, bl o4])]) :
    SX w A (lawEnv L fa) (lawS.1.body.drop 3) g ρ (some (.tab pc)) (lawPost w) := by
  have hgood : ∀ o : List (List UInt8), o.Perm R → ∀ r ∈ o, GoodRow r := fun o p r hr => hR r (p.mem_iff.mp hr)
  have hol : ∀ o : List (List UInt8), o.Perm R → o.length ≤ 5 := fun o p => by rw [p.length_eq]; exact h5
  have hrow : ∀ r ∈ R, r.length % 3 = 0 ∧ r.length ≤ 6 := fun r hr => by rcases hR r hr with h | h <;> rw [h] <;> decide
  refine SX.of ?_ hi
  refine SX.cons (S1.assign (EX.comp (cl := []) (ρc := []) (by rfl) trivial trivial ?_) (by exact .inr ⟨rfl, rfl⟩))
  walk_at "nm"
  refine ⟨_, Src.list Rm.hh, fun C => ?_⟩
  refine CompX.mapN (fun r => .bytes r) (fun r => .list [.bytes r, .bytes (b64 r)]) (by rfl) (fun r hr g₁ l₁ => ?_) (by walk_at "om") fun g₁ ρ₁ l₁ g₂ l₂ => ?_
  · refine EX.list (LX.cons ?_)
    walk_at "nm"
    refine LX.cons (EX.call (n := 1) (Rm.le (by walk_at "om")) ?_)
    walk_at "fn"
    refine LX.cons ?_
    walk_at "nm"
    exact LX.nil (sixes_CX (hrow r hr).1 (by have := (hrow r hr).2; walk_at "om") fun g₂ l₂ => LX.nil ⟨by rw [sizeLine_eq]; simp, fun g₃ l₃ => ⟨rfl, rfl⟩⟩)
  refine SX.cons (S1.assignC (cl := [(sPairs, L + 1)]) (ρc := [(sPairs, prs R)]) (by rfl) ⟨⟨rfl, .inl rfl, rfl, nofun⟩, trivial⟩ ⟨rfl, trivial⟩ (EX.call (n := 6) (Rm.le (by walk_at "om")) ?_) (by rfl))
  walk_at "fn"
  refine LX.cons (EX.call (n := 0) (Rm.le (by walk_at "om")) ?_)
  walk_at "tf"
  refine LX.cons (EX.call (n := 0) (Rm.le (by walk_at "om")) ?_)
  walk_at "tf"
  refine LX.cons (EX.call (n := 0) (Rm.le (by walk_at "om")) ?_)
  walk_at "bf"
  refine LX.cons ?_
  walk_at "nm"
  refine LX.nil (CX.lenL (by rw [List.length_map]; walk_at "om") (LX.nil (CX.range1 fun g₃ l₃ => LX.nil ?_)))
  rw [List.length_map]
  refine CX.listRange (by walk_at "om") fun g₄ l₄ => LX.nil ?_
  have e1 : AV.list ((List.range R.length).map fun (i : Nat) => AV.int i) = il (idxs R.length) := by simp [idxs]
  rw [e1]
  refine orders_CX 5 (by rw [idxs_len]; exact h5) (by decide) fun g₅ l₅ => ?_
  refine ⟨_, Src.list Rm.hh, fun C => ?_⟩
  have hbig := orders_len 5 (idxs R.length) (by rw [idxs_len]; exact h5) (by decide)
  refine CompX.mapA (ρc := [(sPairs, prs R)]) il (fun o => .bytes (textOf R o)) (by rfl) rfl ⟨rfl, trivial⟩ (fun o ho g₆ l₆ => ?_) (by simp only [List.length_nil]; walk_at "om") fun g₆ ρ₆ l₆ hi₆ g₇ l₇ => ?_
  · have hop := orders_perm 5 _ _ ho
    have hol' : o.length ≤ 5 := by rw [hop.length_eq, idxs_len]; exact h5
    refine EX.meth (n := 0) (Rm.le (by walk_at "om")) (EX.cbytes ⟨GetM.join, LX.cons (EX.comp (cl := [(sPairs, L + 1)]) (ρc := [(sPairs, prs R)]) (by rfl) ⟨⟨rfl, .inl rfl, rfl, nofun⟩, trivial⟩ ⟨rfl, trivial⟩ ?_)⟩)
    walk_at "nm"
    refine ⟨_, Src.list Rm.hh, fun C' => ?_⟩
    refine CompX.mapN (fun (k : Int) => .int k) (fun k => .bytes (b64 (rowAt R k))) (by rfl) (fun k hk g₇ l₇ => ?_) (by walk_at "om") fun g₇ ρ₇ l₇ g₈ l₈ => ?_
    · obtain ⟨i, hi', rfl⟩ := List.mem_map.mp (hop.mem_iff.mp hk)
      have hi' := List.mem_range.mp hi'
      have hR' : R[i]? = some (rowAt R i) := by unfold rowAt; rw [Int.toNat_natCast, List.getD_eq_getElem?_getD, List.getElem?_eq_getElem hi']; rfl
      refine EX.sub (EX.sub ?_)
      walk_at "nc"; walk_at "nm"
      refine OX2.itemL (x := .list [.bytes (rowAt R i), .bytes (b64 (rowAt R i))]) ⟨fun _ _ => rfl, fun _ _ => rfl⟩ (by walk_at "om") (by walk_at "om") (by rw [Int.toNat_natCast, List.getElem?_map, hR']; rfl) (EX.cint ?_)
      exact OX2.base (OX2.itemL (x := .bytes (b64 (rowAt R i))) ⟨fun _ _ => rfl, fun _ _ => rfl⟩ (by walk_at "om") (by walk_at "om") rfl ⟨rfl, rfl⟩)
    · have e2 : (o.map fun k => AV.bytes (b64 (rowAt R k))) = (o.map fun k => b64 (rowAt R k)).map .bytes := by rw [List.map_map]; rfl
      rw [e2]
      refine LX.nil (CX.join ?_ ⟨rfl, rfl⟩)
      refine Nat.le_trans (flat_len (n := 8) _ fun r hr => ?_) (by rw [List.length_map]; walk_at "om")
      obtain ⟨k, hk, rfl⟩ := List.mem_map.mp hr
      obtain ⟨i, hi', rfl⟩ := List.mem_map.mp (hop.mem_iff.mp hk)
      have hi' := List.mem_range.mp hi'
      have hmem : rowAt R i ∈ R := by unfold rowAt; rw [Int.toNat_natCast, List.getD_eq_getElem?_getD, List.getElem?_eq_getElem hi']; exact List.getElem_mem hi'
      have := (hrow _ hmem).2
      rw [b64_len]; walk_at "om"
  have e3 : AV.list ([] ++ (orders 5 (idxs R.length)).map fun o => AV.bytes (textOf R o)) = bl (textsOf R) := by unfold textsOf; rw [List.nil_append, bl, List.map_map]; rfl
  rw [e3]
  have hgo : ∀ o ∈ [o1, o2, o3, o4], o.Perm R := fun o ho => by
    simp only [List.mem_cons, List.not_mem_nil, or_false] at ho
    rcases ho with rfl | rfl | rfl | rfl
    · exact F.p1
    · exact F.p2
    · exact F.p3
    · exact F.p4
  have hro : ∀ o ∈ [o1, o2, o3, o4], ∀ r ∈ o, r.length % 3 = 0 ∧ r.length ≤ 6 := fun o ho r hr => hrow r ((hgo o ho).mem_iff.mp hr)
  have hlo : ∀ o ∈ [o1, o2, o3, o4], o.length ≤ 5 := fun o ho => hol o (hgo o ho)
  refine SX.cons (S1.assignC (cl := []) (ρc := []) (by rfl) trivial trivial ?_ (by rfl))
  walk_at "nm"
  refine ⟨_, Src.list Rm.hh, fun C => ?_⟩
  refine CompX.mapN (ys := [o1, o2, o3, o4]) (fun o => bl o) (fun o => .bytes ((o.map b64).flatten)) (by rfl) (fun o ho g₈ l₈ => ?_) (by simp) fun g₈ ρ₈ l₈ g₉ l₉ => ?_
  · refine EX.call (n := 6) (Rm.le (by walk_at "om")) ?_
    walk_at "fn"
    refine LX.cons ?_
    walk_at "nm"
    exact LX.nil (laid_CX (fun r hr => hro o ho r hr) (hlo o ho) fun g' l' => ⟨by simp [laid], rfl⟩)
  refine SX.cons (S1.ite (TX.chain (TXs.or (TX.cmp ?_))))
  walk_at "nm"
  refine EX.comp (cl := []) (ρc := []) (by rfl) trivial trivial ?_
  walk_at "nm"
  refine ⟨_, Src.list Rm.hh, fun C => ?_⟩
  refine CompX.mapN (ys := [o1, o2, o3, o4]) (fun o => bl o) (fun o => .bytes (b64 o.flatten)) (by rfl) (fun o ho g₁₀ l₁₀ => ?_) (by simp) fun g₁₀ ρ₁₀ l₁₀ g₁₁ l₁₁ => ?_
  · have hfl := flat_len (n := 6) o fun r hr => (hro o ho r hr).2
    have := hlo o ho
    refine EX.call (n := 1) (Rm.le (by walk_at "om")) ?_
    walk_at "fn"
    refine LX.cons (EX.meth (n := 0) (Rm.le (by walk_at "om")) (EX.cbytes ⟨GetM.join, LX.cons ?_⟩))
    walk_at "nm"
    refine LX.nil (CX.join (by walk_at "om") (LX.nil ?_))
    exact sixes_CX (flat_mod o fun r hr => (hro o ho r hr).1) (by walk_at "om") fun g' l' => ⟨rfl, rfl⟩
  have hb : ∀ o ∈ [o1, o2, o3, o4], b64 o.flatten = (o.map b64).flatten := fun o ho => b64_flat o fun r hr => (hro o ho r hr).1
  refine OX2.neLL (f := .bytes) (xs := [(o1.map b64).flatten, (o2.map b64).flatten, (o3.map b64).flatten, (o4.map b64).flatten]) (ys := [b64 o1.flatten, b64 o2.flatten, b64 o3.flatten, b64 o4.flatten]) eqOk_bytes Rm.u ⟨_, rfl, ?_⟩
  rw [hb o1 (by simp), hb o2 (by simp), hb o3 (by simp), hb o4 (by simp), if_neg (by simp)]
  refine TXs.or (TX.cmp ?_)
  refine EX.comp (cl := []) (ρc := []) (by rfl) trivial trivial ?_
  walk_at "nm"
  refine ⟨_, Src.list Rm.hh, fun C => ?_⟩
  refine CompX.mapN (fun r => .bytes r) (fun r => .bytes (b64 r)) (by rfl) (fun r hr g₁₂ l₁₂ => ?_) (by walk_at "om") fun g₁₂ ρ₁₂ l₁₂ g₁₃ l₁₃ => ?_
  · refine EX.call (n := 3) (Rm.le (by walk_at "om")) ?_
    walk_at "fn"
    refine LX.cons ?_
    walk_at "nm"
    exact LX.nil (b64encode_CX (hrow r hr).1 (by have := (hrow r hr).2; walk_at "om") fun g' l' => ⟨rfl, rfl⟩)
  refine EX.comp (cl := []) (ρc := []) (by rfl) trivial trivial ?_
  walk_at "nc"
  refine ⟨_, Src.list Rm.hh, fun C => ?_⟩
  refine texts_comp Rm.hh (by rfl) (by rfl) R [] (by simp; walk_at "om") fun g₁₄ ρ₁₄ l₁₄ g₁₅ l₁₅ => ?_
  have e4 : (R.map fun r => AV.bytes (b64 r)) = (R.map b64).map .bytes := by rw [List.map_map]; rfl
  rw [List.nil_append, e4]
  refine OX2.neLL (f := .bytes) (xs := R.map b64) (ys := R.map b64) eqOk_bytes Rm.u ⟨_, rfl, ?_⟩
  rw [if_neg (by simp)]
  refine TXs.orNil ?_
  rw [if_neg (by decide)]
  refine SX.nil ?_
  have hne : 0 < (textsOf R).length := List.length_pos_of_mem (text_mem h5 (.refl R))
  refine SX.cons (S1.ret (EX.cmp ?_))
  walk_at "nm"
  refine EX.list (LX.cons (EX.call (n := 1) (Rm.le (by walk_at "om")) ?_))
  walk_at "bf"
  refine LX.cons ?_
  walk_at "nm"
  refine LX.nil (CX.minB hne fun m1 hm1 hl1 => LX.cons (EX.call (n := 1) (Rm.le (by walk_at "om")) ?_))
  walk_at "bf"
  refine LX.cons ?_
  walk_at "nm"
  refine LX.nil (CX.minB hne fun m2 hm2 hl2 => LX.cons (EX.call (n := 1) (Rm.le (by walk_at "om")) ?_))
  walk_at "bf"
  refine LX.cons ?_
  walk_at "nm"
  refine LX.nil (CX.maxB hne fun M1 hM1 hL1 => LX.cons (EX.call (n := 1) (Rm.le (by walk_at "om")) ?_))
  walk_at "bf"
  refine LX.cons ?_
  walk_at "nm"
  refine LX.nil (CX.maxB hne fun M2 hM2 hL2 => LX.nil ⟨by rw [sizeLine_eq]; simp, fun g₁₆ l₁₆ => ?_⟩)
  refine OX2.eqLL (f := .bytes) (xs := [(o1.map b64).flatten, (o2.map b64).flatten, (o3.map b64).flatten, (o4.map b64).flatten]) (ys := [m1, m2, M1, M2]) eqOk_bytes Rm.u ⟨?_, _, rfl⟩
  rw [(F.m m1 hm1 hl1).1, (F.m m2 hm2 hl2).2, (F.M M1 hM1 hL1).1, (F.M M2 hM2 hL2).2, beq_self_eq_true]
end
end Mine
set_option tactic.hygienic false
open PySem PySem.W PySem.Calls PyProof.Rows
set_option Elab.async false
set_option maxRecDepth 100000
set_option maxHeartbeats 4000000
set_option linter.unusedVariables false
set_option linter.unusedSimpArgs false
namespace Mine
section
variable {w : World} {g : Heap} {A : Around} {L fa : Addr}
theorem law_SX (Rm : Room A 12) (script : List Int) (hz : script.length ≤ 63) : SX w A (lawEnv L fa) lawS.1.body g [(sScript, .list (script.map .int))] (some (.tab none)) (lawPost w) := by
  refine SX.cons (S1.assignC (cl := []) (ρc := []) (by rfl) trivial trivial (EX.bin (EX.sliceL ?_)) (by rfl))
  walk_at "nm"
  refine ⟨_, rfl, by rw [List.length_map]; walk_at "om", ?_⟩
  show EX _ _ _ _ _ _ _ _
  refine EX.cint ⟨_, rfl, (script.take 2).map .int, fun vs g r => ⟨vs.take 2, pick2 vs, by rw [List.map_take]; exact r.take 2⟩, fun g₁ l₁ => ?_⟩
  refine EX.list (LX.cons (EX.cint (LX.cons (EX.cint (LX.cons (EX.cint (LX.nil ⟨by decide, fun g₂ l₂ => ?_⟩)))))))
  have ht : (script.take 2).length ≤ 2 := by rw [List.length_take]; walk_at "om"
  refine OX2.addL (by simp only [List.length_map, List.length_cons, List.length_nil]; walk_at "om") fun g₃ l₃ => ?_
  have e1 : AV.list ((script.take 2).map .int ++ [.int 24576, .int 24577, .int 98310]) = il (script.take 2 ++ [24576, 24577, 98310]) := by simp
  rw [e1]
  obtain ⟨xs, hxs⟩ : ∃ xs, xs = script.take 2 ++ [24576, 24577, 98310] := ⟨_, rfl⟩
  have hx5 : xs.length ≤ 5 ∧ 3 ≤ xs.length := by rw [hxs, List.length_append]; simp only [List.length_cons, List.length_nil]; walk_at "om"
  rw [← hxs]
  refine ⟨_, Src.list Rm.hh, fun C => ?_⟩
  refine CompX.mapN (fun (x : Int) => .int x) (fun x => .bytes (rowOf x)) (by rfl) (fun x hx g₄ l₄ => ?_) (by walk_at "om") fun g₄ ρ₄ l₄ g₅ l₅ => ?_
  · refine EX.call (n := 1) (Rm.le (by walk_at "om")) ?_
    walk_at "fn"
    refine LX.cons ?_
    walk_at "nm"
    exact LX.nil (row_CX fun g' l' => ⟨rfl, rfl⟩)
  have e2 : AV.list (xs.map fun x => AV.bytes (rowOf x)) = bl (xs.map rowOf) := by rw [bl, List.map_map]; rfl
  rw [e2]
  obtain ⟨R, hR⟩ : ∃ R, R = xs.map rowOf := ⟨_, rfl⟩
  have h5 : R.length ≤ 5 := by rw [hR, List.length_map]; exact hx5.1
  have hne : R ≠ [] := by
    intro h
    have := congrArg List.length h
    rw [hR, List.length_map] at this
    rw [List.length_nil] at this; walk_at "om"
  have hgood : ∀ r ∈ R, GoodRow r := fun r hr => by
    rw [hR] at hr
    obtain ⟨x, _, rfl⟩ := List.mem_map.mp hr
    exact good_rowOf x
  rw [← hR]
  clear e1 e2 hxs hx5 hR l₁ l₂ l₃ l₄ l₅
  refine SX.of (ρ₂ := [(sRows, bl R)]) ?_ ⟨rfl, trivial⟩
  refine SX.cons (S1.assignT2 (x := sFirst) (y := sLast) (EX.tuple (LX.cons (EX.call (n := 11) (Rm.le (by walk_at "om")) ?_))) Rm.hh (.inl rfl) (.inl rfl))
  walk_at "fn"
  refine LX.cons (EX.glob (a := .raw (.ref 107)) (by rfl) (by rfl) (fun _ => .raw _) (LX.nil (key_CX fun g₆ K₁ P₁ l₆ ok₁ => LX.cons (EX.call (n := 11) (Rm.le (by walk_at "om")) ?_))))
  walk_at "fn"
  refine LX.cons (EX.lam .law rfl (fun B => ⟨_, _, _, _, _, _, _, _, _, B.K 135 _ (by exact rfl), rfl, rfl, rfl, rfl, rfl, rfl, rfl, rfl, by decide⟩) (by rfl) (by rfl) (by rfl) fun g₇ f₂ pm cv ctv l₇ ho hcr => LX.nil (key_CX fun g₈ K₂ P₂ l₈ ok₂ => LX.nil ⟨by rw [sizeLine_eq]; simp, fun g₉ l₉ => ⟨_, _, rfl, ?_⟩⟩))
  have ok₁' := ok₁.mono ((l₇.trans l₈).trans l₉)
  have ok₂' := ok₂.mono l₉
  have cmp1 : Cmp w 5 K₁ ltF g₉ := key_Cmp ok₁' cmp107 fun a b ha hb => cmpI_lt ha hb
  have cmp2 : Cmp w 6 K₂ ltL g₉ := key_Cmp ok₂' (cmpLam ((l₈.trans l₉) _ _ ho) (hcr.keeps (l₈.trans l₉))) fun a b ha hb => cmpI_lt hb ha
  refine SX.of (ρ₂ := [(sRows, bl R), (sFirst, .raw (.ref K₁)), (sLast, .raw (.ref K₂))]) ?_ ⟨rfl, rfl, rfl, trivial⟩
  have hgr : ∀ r ∈ R.reverse, GoodRow r := fun r hr => hgood r (List.mem_reverse.mp hr)
  have h5r : R.reverse.length ≤ 5 := by rw [List.length_reverse]; exact h5
  refine SX.cons (S1.assign (EX.list (LX.cons (EX.call (n := 10) (Rm.le (by walk_at "om")) ?_))) (by exact .inl rfl))
  walk_at "fn"
  refine LX.cons ?_
  walk_at "nm"
  refine LX.cons ?_
  walk_at "nm"
  refine LX.nil ((offT ltF_ok ok₁' cmp1 hgood h5 fun g₁₀ ks₁ l₁₀ p₁ s₁ => ?_ : CX w 9 _ _ _ _ _).mono (by walk_at "om") fun _ _ _ h => h)
  refine LX.cons (EX.call (n := 10) (Rm.le (by walk_at "om")) ?_)
  walk_at "fn"
  refine LX.cons (EX.revL ?_)
  walk_at "nm"
  refine ⟨_, rfl, by rw [List.length_map]; walk_at "om", EX.un (EX.cint (OX1.neg ⟨rfl, fun g₁₁ l₁₁ => ?_⟩))⟩
  have er : AV.list (R.map AV.bytes).reverse = bl R.reverse := by rw [bl, List.map_reverse]
  rw [er]
  refine LX.cons ?_
  walk_at "nm"
  have l11 := l₁₀.trans l₁₁
  refine LX.nil ((offT ltF_ok (ok₁'.mono l11) (cmp1.to l11) hgr h5r fun g₁₂ ks₂ l₁₂ p₂ s₂ => ?_ : CX w 9 _ _ _ _ _).mono (by walk_at "om") fun _ _ _ h => h)
  refine LX.cons (EX.call (n := 10) (Rm.le (by walk_at "om")) ?_)
  walk_at "fn"
  refine LX.cons ?_
  walk_at "nm"
  refine LX.cons ?_
  walk_at "nm"
  have l12 := l11.trans l₁₂
  refine LX.nil (offT ltL_ok (ok₂'.mono l12) (cmp2.to l12) hgood h5 fun g₁₃ ks₃ l₁₃ p₃ s₃ => LX.cons (EX.call (n := 10) (Rm.le (by walk_at "om")) ?_))
  walk_at "fn"
  refine LX.cons (EX.revL ?_)
  walk_at "nm"
  refine ⟨_, rfl, by rw [List.length_map]; walk_at "om", EX.un (EX.cint (OX1.neg ⟨rfl, fun g₁₄ l₁₄ => ?_⟩))⟩
  rw [er]
  refine LX.cons ?_
  walk_at "nm"
  have l14 := (l12.trans l₁₃).trans l₁₄
  refine LX.nil (offT ltL_ok (ok₂'.mono l14) (cmp2.to l14) hgr h5r fun g₁₅ ks₄ l₁₅ p₄ s₄ => LX.nil ⟨by rw [sizeLine_eq]; simp, fun g₁₆ l₁₆ => ?_⟩)
  have p₂' := p₂.trans R.reverse_perm
  have p₄' := p₄.trans R.reverse_perm
  refine law_tail Rm h5 hne hgood (o1 := ks₁.map (·.2)) (o2 := ks₂.map (·.2)) (o3 := ks₃.map (·.2)) (o4 := ks₄.map (·.2)) ⟨p₁, p₂', p₃, p₄', fun m hm hl => ⟨first_is_min h5 hgood p₁ s₁ hm hl, first_is_min h5 hgood p₂' s₂ hm hl⟩, fun m hm hl => ⟨last_is_max h5 hgood p₃ s₃ hm hl, last_is_max h5 hgood p₄' s₄ hm hl⟩⟩ ⟨rfl, rfl, trivial⟩
end
end Mine
set_option tactic.hygienic false
open PySem PySem.W PySem.Calls PyProof.Rows
set_option Elab.async false
set_option maxRecDepth 100000
set_option maxHeartbeats 4000000
set_option linter.unusedVariables false
set_option linter.unusedSimpArgs false
namespace Mine
noncomputable abbrev tabs3 : List (Addr × Addr) := [(123, 119), (85, 81), (135, 133)]
theorem law_fin {w : World} {s₁ : Shared} {h₁ G : Heap} {L fa a tk₁ : Nat} {m : Str → Option Value} {wo : Obj} {cv : Option Value} {us : List Value} {ns : List Int} {E : Value → Shared → Prop} {Q : Flow → Shared → Prop}
    (X : (KA w.params).In G) (T : ∃ p loose mean mg mb, Top p loose mean mg mb G) (F : Fr G L h₁ m) (hm : m sScript = some (.ref a)) (N : News G L h₁ [(L + 1, wo), (119, tabObj #[]), (81, tabObj #[]), (133, tabObj #[])]) (hc : wo.data = .cell cv)
    (hl : LstAt G a us) (hI : IntsAre us ns) (hz : ns.length ≤ 63) (l0 : 119 < L ∧ 81 < L ∧ 133 < L)
    (k : ∀ h' tk, Le G h' → GrownAll tabs3 h' → Q (.ret (.bool true)) { s₁ with heap := h', toks := tk }) :
    wpAny (model PR w) (callerA.deeper (lawEnv L fa)) (execs lawS.1.body (lawEnv L fa)) Q E { s₁ with heap := h₁, toks := tk₁ } := by
  have Rm : Room (callerA.deeper (lawEnv L fa)) 12 := ⟨rfl, show callerA.depth + 1 + 12 < recursionLimit by decide, show callerA.units + 3 + 8 * 12 < cLine by decide⟩
  have hcells : ∀ x c, (lawEnv L fa).cells.lookup x = some c → x = sPairs ∧ c = L + 1 := fun x c e => by
    have e' : List.lookup x [(sPairs, L + 1)] = some c := e
    rw [List.lookup_cons, List.lookup_nil] at e'
    by_cases q : (x == sPairs) = true
    · rw [q] at e'; cases e'; exact ⟨beq_iff_eq.mp q, rfl⟩
    · rw [Bool.not_eq_true] at q; rw [q] at e'; cases e'
  have gL : G.get? L = none := fresh_ge F.above
  have nw := N (L + 1, wo) (.head _)
  have n119 := N (119, tabObj #[]) (.tail _ (.head _))
  have n81 := N (81, tabObj #[]) (.tail _ (.tail _ (.head _)))
  have n133 := N (133, tabObj #[]) (.tail _ (.tail _ (.tail _ (.head _))))
  have md : ∀ b, mad (some (.tab none)) b → b = 81 ∨ b = 119 ∨ b = 133 := fun b m => by
    rcases m with m | m | m | m
    · exact .inl m
    · exact .inr (.inl m)
    · exact .inr (.inr m)
    · cases m
  have R : Rel w G (lawEnv L fa) [(sScript, .list (ns.map .int))] (some (.tab none)) h₁ := by
    refine ⟨⟨X, T⟩, F.keep, ⟨rfl, rfl, rfl, ⟨m, F.ns, fun x v hx hk => ?_⟩, gL, fun x v hx hk => ?_, fun x c hx => ?_, fun x y c hx hy => ?_⟩, ⟨fun b mb => ?_, fun b mb => ?_, ⟨⟨#[], ⟨n119.1, trivial⟩, ?_⟩, ⟨#[], ⟨n133.1, trivial⟩, ?_⟩, ⟨#[], ⟨n81.1, trivial⟩, rfl⟩, fun p e => by cases e⟩⟩, fun b mb => ?_⟩
    · rw [List.lookup_cons, List.lookup_nil] at hx
      by_cases q : (x == sScript) = true
      · rw [q] at hx
        cases hx
        rw [beq_iff_eq.mp q]
        exact ⟨_, hm, .list' hl (RVs.ofInts hI)⟩
      · rw [Bool.not_eq_true] at q; rw [q] at hx; cases hx
    · rw [List.lookup_cons, List.lookup_nil] at hx
      by_cases q : (x == sScript) = true
      · rw [beq_iff_eq.mp q] at hk
        have e : (lawEnv L fa).kindOf sScript = some .local := by rfl
        rw [e] at hk
        rcases hk with h | h <;> cases h
      · rw [Bool.not_eq_true] at q; rw [q] at hx; cases hx
    · obtain ⟨rfl, rfl⟩ := hcells x c hx
      exact ⟨⟨cv, wo, nw.1, hc⟩, nw.2.1, fun _ => nw.2.2⟩
    · rw [(hcells x c hx).1, (hcells y c hy).1]
    · rcases md b mb with rfl | rfl | rfl
      · exact n81.2.2
      · exact n119.2.2
      · exact n133.2.2
    · rcases md b mb with rfl | rfl | rfl
      · exact ⟨_, n81.1⟩
      · exact ⟨_, n119.1⟩
      · exact ⟨_, n133.1⟩
    · intro r hr cv e; cases e
    · intro r hr cv e; cases e
    · have hb : b < L := by rcases md b mb with rfl | rfl | rfl; exact l0.2.1; exact l0.1; exact l0.2.2
      refine ⟨?_, fun x hx => ?_⟩
      · rintro (e | ⟨x, _, hx⟩)
        · rw [e] at hb; exact absurd hb (Nat.lt_irrefl _)
        · exact absurd (hcells x b hx).2 (Nat.ne_of_lt (Nat.lt_succ_of_lt hb))
      · exact absurd (hcells x b hx).2 (Nat.ne_of_lt (Nat.lt_succ_of_lt hb))
  refine law_SX Rm ns hz _ E Q R fun g' f ρ' μ' fl h' tk p b R' r => ?_
  obtain ⟨rfl, pc, rfl⟩ := p
  cases r with
  | ret r =>
  obtain ⟨_, rfl⟩ := r.inv
  have X' : TabI g' pc h' := R'.mu.ok
  refine k h' tk (b.st.le.trans b.le) ?_
  obtain ⟨ps1, ⟨a1, _⟩, _⟩ := X'.laid
  obtain ⟨ps2, ⟨a2, _⟩, _⟩ := X'.law
  obtain ⟨ps3, ⟨a3, _⟩, _⟩ := X'.cls
  exact ⟨⟨ps1, a1⟩, ⟨ps3, a3⟩, ⟨ps2, a2⟩, trivial⟩
end Mine
set_option tactic.hygienic true
open PySem PySem.W PySem.Calls PyProof.Rows
set_option Elab.async false
set_option maxRecDepth 100000
set_option maxHeartbeats 8000000
theorem PySem.Challenge.cw_aa0004_01_holds : PySem.Challenge.rw_aa0004_01.Holds := by
  w_on
  refine Mine.hlaw fun sd => ?_
  refine holds_open (q := Mine.vw) (loose := [Str.ofString "b2a_base64", Str.ofString "b64encode", Str.ofString "_initial_missing", Str.ofString "reduce"])
    (Xt := fun s => xlAt Mine.vw [] s && recOk (RowW.records PySem.Challenge.rw_aa0004_01.row.toRowW) s) (XP := XL Mine.vw [])
    (Yf := Hook.obs (kmHook Mine.KA Mine.kAs Mine.kAs_eq [119, 81, 133])) (Ya := Hook.val (kmHook Mine.KA Mine.kAs Mine.kAs_eq [119, 81, 133])) (YP := Hook.says (kmHook Mine.KA Mine.kAs Mine.kAs_eq [119, 81, 133])) (N := 1400) Mine.left
    (Hook.of (kmHook Mine.KA Mine.kAs Mine.kAs_eq [119, 81, 133])) (Hook.keeps (kmHook Mine.KA Mine.kAs Mine.kAs_eq [119, 81, 133])) (fun s e => xl_of s (Bool.and_eq_true_iff.mp e).1) XL.keeps (by rfl) (by rfl) (by rfl)
    (fun s e => recFacts_of (Bool.and_eq_true_iff.mp e).2) (by rfl) sd (by decide +kernel) ⟨rfl, rfl, rfl, rfl, rfl, by decide +kernel⟩ ?hw ?hc
  case hw => w_witness2
  clear sd
  k_go0
  all_goals try k_fold
  rename_i wd s₀ s₁ mg mb G Y fa o pm doc ho hg X V T B TE TW hcd ns hs hlay0 hL1 hr1 hl2 w5 w4 w3 w2 w1 hL ra ww1 r0 hI hr hc1 hc2 hD h₁ tk₁ wo wright X0 X' T' K' F' c1 c2 N' l0
  refine Mine.law_fin (us := w2) X' ⟨_, _, _, _, _, T'⟩ F' rfl N' wright ?_ hI ?_ l0 fun h' tk le gr => ⟨⟨.inl ⟨.bool true, .bool true, [], rfl, ?_, ?_, ?_, ?_⟩, le, rfl, hg⟩, gr⟩
  · have hw : ∃ ep, s₁.heap.get? w3 = some { cls := .type "list", dict := none, data := .seq w2.toArray ep, slots := #[] } := by
      cases ww1 with
      | list e _ =>
        obtain ⟨o', e1, e2, n, e3⟩ := hL
        rw [e] at e1
        cases e1
        cases e3
        exact ⟨_, e⟩
    obtain ⟨ep, e⟩ := hw
    obtain ⟨o', e1, e2, n, e3⟩ := lifted
    have e4 := of_hideAll _ e1
    rw [e] at e4
    cases e4
    exact ⟨_, e1⟩
  · walk_at "om"
  · intro cls; rfl
  · exact .bool true
  · exact postW_of (by wrow_shape) (by wtm_val) (by str_meet; first | done | w_fin)
  · intro _; exact ⟨.nil, fun a h => nomatch h⟩
